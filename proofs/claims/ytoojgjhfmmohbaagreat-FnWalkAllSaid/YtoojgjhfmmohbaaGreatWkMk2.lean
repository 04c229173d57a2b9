/- impl.unary, binary, comparing, many (printed by genwkmk2.py). -/
import Derived.Test.YtoojgjhfmmohbaaGreatMMka
namespace Go.Proofs.YtoojgjhfmmohbaaGreat
open Go.RowKit Dig
set_option linter.unusedVariables false
set_option linter.unusedSimpArgs false
set_option maxRecDepth 100000
def TokPost (ok : Bool) (w : World) (e : Ending) (w' : World) : Prop := ∃ t : Int, e = .returned (.tuple #[.int .i8 t, .bool ok]) ∧ Below w.heap.size w w'
set_option maxHeartbeats 400000 in
theorem unary_19 (w : World) : Calls Tryz.prog 58 #[.int .i64 19] w (TokPost true w) := by
 have HB : Hid (∀ (t : Int) (o : Obj), TokPost true w (.returned (.tuple #[.int .i8 t, .bool true])) (w.alloc o)) := Li (fun t o => ⟨t, rfl, (Below.refl _ _).alloc (Nat.le_refl _) _⟩)
 go_enter Tryz.func58, Tryz.ntmps58
 go_wp2
 go_ret2
 exact HB.out _ _
set_option maxHeartbeats 400000 in
theorem unary_20 (w : World) : Calls Tryz.prog 58 #[.int .i64 20] w (TokPost true w) := by
 have HB : Hid (∀ (t : Int) (o : Obj), TokPost true w (.returned (.tuple #[.int .i8 t, .bool true])) (w.alloc o)) := Li (fun t o => ⟨t, rfl, (Below.refl _ _).alloc (Nat.le_refl _) _⟩)
 go_enter Tryz.func58, Tryz.ntmps58
 go_wp2
 go_ret2
 exact HB.out _ _
set_option maxHeartbeats 400000 in
theorem unary_21 (w : World) : Calls Tryz.prog 58 #[.int .i64 21] w (TokPost true w) := by
 have HB : Hid (∀ (t : Int) (o : Obj), TokPost true w (.returned (.tuple #[.int .i8 t, .bool true])) (w.alloc o)) := Li (fun t o => ⟨t, rfl, (Below.refl _ _).alloc (Nat.le_refl _) _⟩)
 go_enter Tryz.func58, Tryz.ntmps58
 go_wp2
 go_ret2
 exact HB.out _ _
set_option maxHeartbeats 400000 in
theorem unary_22 (w : World) : Calls Tryz.prog 58 #[.int .i64 22] w (TokPost true w) := by
 have HB : Hid (∀ (t : Int) (o : Obj), TokPost true w (.returned (.tuple #[.int .i8 t, .bool true])) (w.alloc o)) := Li (fun t o => ⟨t, rfl, (Below.refl _ _).alloc (Nat.le_refl _) _⟩)
 go_enter Tryz.func58, Tryz.ntmps58
 go_wp2
 go_ret2
 exact HB.out _ _
set_option maxHeartbeats 400000 in
theorem binary_0 (w : World) : Calls Tryz.prog 59 #[.int .i64 0] w (TokPost true w) := by
 have HB : Hid (∀ (t : Int) (o : Obj), TokPost true w (.returned (.tuple #[.int .i8 t, .bool true])) (w.alloc o)) := Li (fun t o => ⟨t, rfl, (Below.refl _ _).alloc (Nat.le_refl _) _⟩)
 go_enter Tryz.func59, Tryz.ntmps59
 go_wp2
 go_ret2
 exact HB.out _ _
set_option maxHeartbeats 400000 in
theorem binary_1 (w : World) : Calls Tryz.prog 59 #[.int .i64 1] w (TokPost true w) := by
 have HB : Hid (∀ (t : Int) (o : Obj), TokPost true w (.returned (.tuple #[.int .i8 t, .bool true])) (w.alloc o)) := Li (fun t o => ⟨t, rfl, (Below.refl _ _).alloc (Nat.le_refl _) _⟩)
 go_enter Tryz.func59, Tryz.ntmps59
 go_wp2
 go_ret2
 exact HB.out _ _
set_option maxHeartbeats 400000 in
theorem binary_2 (w : World) : Calls Tryz.prog 59 #[.int .i64 2] w (TokPost true w) := by
 have HB : Hid (∀ (t : Int) (o : Obj), TokPost true w (.returned (.tuple #[.int .i8 t, .bool true])) (w.alloc o)) := Li (fun t o => ⟨t, rfl, (Below.refl _ _).alloc (Nat.le_refl _) _⟩)
 go_enter Tryz.func59, Tryz.ntmps59
 go_wp2
 go_ret2
 exact HB.out _ _
set_option maxHeartbeats 400000 in
theorem binary_3 (w : World) : Calls Tryz.prog 59 #[.int .i64 3] w (TokPost true w) := by
 have HB : Hid (∀ (t : Int) (o : Obj), TokPost true w (.returned (.tuple #[.int .i8 t, .bool true])) (w.alloc o)) := Li (fun t o => ⟨t, rfl, (Below.refl _ _).alloc (Nat.le_refl _) _⟩)
 go_enter Tryz.func59, Tryz.ntmps59
 go_wp2
 go_ret2
 exact HB.out _ _
set_option maxHeartbeats 400000 in
theorem binary_4 (w : World) : Calls Tryz.prog 59 #[.int .i64 4] w (TokPost true w) := by
 have HB : Hid (∀ (t : Int) (o : Obj), TokPost true w (.returned (.tuple #[.int .i8 t, .bool true])) (w.alloc o)) := Li (fun t o => ⟨t, rfl, (Below.refl _ _).alloc (Nat.le_refl _) _⟩)
 go_enter Tryz.func59, Tryz.ntmps59
 go_wp2
 go_ret2
 exact HB.out _ _
set_option maxHeartbeats 400000 in
theorem binary_5 (w : World) : Calls Tryz.prog 59 #[.int .i64 5] w (TokPost true w) := by
 have HB : Hid (∀ (t : Int) (o : Obj), TokPost true w (.returned (.tuple #[.int .i8 t, .bool true])) (w.alloc o)) := Li (fun t o => ⟨t, rfl, (Below.refl _ _).alloc (Nat.le_refl _) _⟩)
 go_enter Tryz.func59, Tryz.ntmps59
 go_wp2
 go_ret2
 exact HB.out _ _
set_option maxHeartbeats 400000 in
theorem binary_6 (w : World) : Calls Tryz.prog 59 #[.int .i64 6] w (TokPost true w) := by
 have HB : Hid (∀ (t : Int) (o : Obj), TokPost true w (.returned (.tuple #[.int .i8 t, .bool true])) (w.alloc o)) := Li (fun t o => ⟨t, rfl, (Below.refl _ _).alloc (Nat.le_refl _) _⟩)
 go_enter Tryz.func59, Tryz.ntmps59
 go_wp2
 go_ret2
 exact HB.out _ _
set_option maxHeartbeats 400000 in
theorem binary_7 (w : World) : Calls Tryz.prog 59 #[.int .i64 7] w (TokPost true w) := by
 have HB : Hid (∀ (t : Int) (o : Obj), TokPost true w (.returned (.tuple #[.int .i8 t, .bool true])) (w.alloc o)) := Li (fun t o => ⟨t, rfl, (Below.refl _ _).alloc (Nat.le_refl _) _⟩)
 go_enter Tryz.func59, Tryz.ntmps59
 go_wp2
 go_ret2
 exact HB.out _ _
set_option maxHeartbeats 400000 in
theorem binary_8 (w : World) : Calls Tryz.prog 59 #[.int .i64 8] w (TokPost true w) := by
 have HB : Hid (∀ (t : Int) (o : Obj), TokPost true w (.returned (.tuple #[.int .i8 t, .bool true])) (w.alloc o)) := Li (fun t o => ⟨t, rfl, (Below.refl _ _).alloc (Nat.le_refl _) _⟩)
 go_enter Tryz.func59, Tryz.ntmps59
 go_wp2
 go_ret2
 exact HB.out _ _
set_option maxHeartbeats 400000 in
theorem binary_9 (w : World) : Calls Tryz.prog 59 #[.int .i64 9] w (TokPost true w) := by
 have HB : Hid (∀ (t : Int) (o : Obj), TokPost true w (.returned (.tuple #[.int .i8 t, .bool true])) (w.alloc o)) := Li (fun t o => ⟨t, rfl, (Below.refl _ _).alloc (Nat.le_refl _) _⟩)
 go_enter Tryz.func59, Tryz.ntmps59
 go_wp2
 go_ret2
 exact HB.out _ _
set_option maxHeartbeats 400000 in
theorem binary_10 (w : World) : Calls Tryz.prog 59 #[.int .i64 10] w (TokPost true w) := by
 have HB : Hid (∀ (t : Int) (o : Obj), TokPost true w (.returned (.tuple #[.int .i8 t, .bool true])) (w.alloc o)) := Li (fun t o => ⟨t, rfl, (Below.refl _ _).alloc (Nat.le_refl _) _⟩)
 go_enter Tryz.func59, Tryz.ntmps59
 go_wp2
 go_ret2
 exact HB.out _ _
set_option maxHeartbeats 400000 in
theorem binary_11 (w : World) : Calls Tryz.prog 59 #[.int .i64 11] w (TokPost true w) := by
 have HB : Hid (∀ (t : Int) (o : Obj), TokPost true w (.returned (.tuple #[.int .i8 t, .bool true])) (w.alloc o)) := Li (fun t o => ⟨t, rfl, (Below.refl _ _).alloc (Nat.le_refl _) _⟩)
 go_enter Tryz.func59, Tryz.ntmps59
 go_wp2
 go_ret2
 exact HB.out _ _
set_option maxHeartbeats 400000 in
theorem binary_12 (w : World) : Calls Tryz.prog 59 #[.int .i64 12] w (TokPost true w) := by
 have HB : Hid (∀ (t : Int) (o : Obj), TokPost true w (.returned (.tuple #[.int .i8 t, .bool true])) (w.alloc o)) := Li (fun t o => ⟨t, rfl, (Below.refl _ _).alloc (Nat.le_refl _) _⟩)
 go_enter Tryz.func59, Tryz.ntmps59
 go_wp2
 go_ret2
 exact HB.out _ _
set_option maxHeartbeats 400000 in
theorem binary_13 (w : World) : Calls Tryz.prog 59 #[.int .i64 13] w (TokPost false w) := by
 have HB : Hid (∀ (t : Int) (o : Obj), TokPost false w (.returned (.tuple #[.int .i8 t, .bool false])) (w.alloc o)) := Li (fun t o => ⟨t, rfl, (Below.refl _ _).alloc (Nat.le_refl _) _⟩)
 go_enter Tryz.func59, Tryz.ntmps59
 go_wp2
 go_ret2
 exact HB.out _ _
set_option maxHeartbeats 400000 in
theorem binary_14 (w : World) : Calls Tryz.prog 59 #[.int .i64 14] w (TokPost false w) := by
 have HB : Hid (∀ (t : Int) (o : Obj), TokPost false w (.returned (.tuple #[.int .i8 t, .bool false])) (w.alloc o)) := Li (fun t o => ⟨t, rfl, (Below.refl _ _).alloc (Nat.le_refl _) _⟩)
 go_enter Tryz.func59, Tryz.ntmps59
 go_wp2
 go_ret2
 exact HB.out _ _
set_option maxHeartbeats 400000 in
theorem binary_15 (w : World) : Calls Tryz.prog 59 #[.int .i64 15] w (TokPost false w) := by
 have HB : Hid (∀ (t : Int) (o : Obj), TokPost false w (.returned (.tuple #[.int .i8 t, .bool false])) (w.alloc o)) := Li (fun t o => ⟨t, rfl, (Below.refl _ _).alloc (Nat.le_refl _) _⟩)
 go_enter Tryz.func59, Tryz.ntmps59
 go_wp2
 go_ret2
 exact HB.out _ _
set_option maxHeartbeats 400000 in
theorem binary_16 (w : World) : Calls Tryz.prog 59 #[.int .i64 16] w (TokPost false w) := by
 have HB : Hid (∀ (t : Int) (o : Obj), TokPost false w (.returned (.tuple #[.int .i8 t, .bool false])) (w.alloc o)) := Li (fun t o => ⟨t, rfl, (Below.refl _ _).alloc (Nat.le_refl _) _⟩)
 go_enter Tryz.func59, Tryz.ntmps59
 go_wp2
 go_ret2
 exact HB.out _ _
set_option maxHeartbeats 400000 in
theorem binary_17 (w : World) : Calls Tryz.prog 59 #[.int .i64 17] w (TokPost false w) := by
 have HB : Hid (∀ (t : Int) (o : Obj), TokPost false w (.returned (.tuple #[.int .i8 t, .bool false])) (w.alloc o)) := Li (fun t o => ⟨t, rfl, (Below.refl _ _).alloc (Nat.le_refl _) _⟩)
 go_enter Tryz.func59, Tryz.ntmps59
 go_wp2
 go_ret2
 exact HB.out _ _
set_option maxHeartbeats 400000 in
theorem binary_18 (w : World) : Calls Tryz.prog 59 #[.int .i64 18] w (TokPost false w) := by
 have HB : Hid (∀ (t : Int) (o : Obj), TokPost false w (.returned (.tuple #[.int .i8 t, .bool false])) (w.alloc o)) := Li (fun t o => ⟨t, rfl, (Below.refl _ _).alloc (Nat.le_refl _) _⟩)
 go_enter Tryz.func59, Tryz.ntmps59
 go_wp2
 go_ret2
 exact HB.out _ _
set_option maxHeartbeats 400000 in
theorem comparing_13 (w : World) : Calls Tryz.prog 60 #[.int .i64 13] w (TokPost true w) := by
 have HB : Hid (∀ (t : Int) (o : Obj), TokPost true w (.returned (.tuple #[.int .i8 t, .bool true])) (w.alloc o)) := Li (fun t o => ⟨t, rfl, (Below.refl _ _).alloc (Nat.le_refl _) _⟩)
 go_enter Tryz.func60, Tryz.ntmps60
 go_wp2
 go_ret2
 exact HB.out _ _
set_option maxHeartbeats 400000 in
theorem comparing_14 (w : World) : Calls Tryz.prog 60 #[.int .i64 14] w (TokPost true w) := by
 have HB : Hid (∀ (t : Int) (o : Obj), TokPost true w (.returned (.tuple #[.int .i8 t, .bool true])) (w.alloc o)) := Li (fun t o => ⟨t, rfl, (Below.refl _ _).alloc (Nat.le_refl _) _⟩)
 go_enter Tryz.func60, Tryz.ntmps60
 go_wp2
 go_ret2
 exact HB.out _ _
set_option maxHeartbeats 400000 in
theorem comparing_15 (w : World) : Calls Tryz.prog 60 #[.int .i64 15] w (TokPost true w) := by
 have HB : Hid (∀ (t : Int) (o : Obj), TokPost true w (.returned (.tuple #[.int .i8 t, .bool true])) (w.alloc o)) := Li (fun t o => ⟨t, rfl, (Below.refl _ _).alloc (Nat.le_refl _) _⟩)
 go_enter Tryz.func60, Tryz.ntmps60
 go_wp2
 go_ret2
 exact HB.out _ _
set_option maxHeartbeats 400000 in
theorem comparing_16 (w : World) : Calls Tryz.prog 60 #[.int .i64 16] w (TokPost true w) := by
 have HB : Hid (∀ (t : Int) (o : Obj), TokPost true w (.returned (.tuple #[.int .i8 t, .bool true])) (w.alloc o)) := Li (fun t o => ⟨t, rfl, (Below.refl _ _).alloc (Nat.le_refl _) _⟩)
 go_enter Tryz.func60, Tryz.ntmps60
 go_wp2
 go_ret2
 exact HB.out _ _
set_option maxHeartbeats 400000 in
theorem comparing_17 (w : World) : Calls Tryz.prog 60 #[.int .i64 17] w (TokPost true w) := by
 have HB : Hid (∀ (t : Int) (o : Obj), TokPost true w (.returned (.tuple #[.int .i8 t, .bool true])) (w.alloc o)) := Li (fun t o => ⟨t, rfl, (Below.refl _ _).alloc (Nat.le_refl _) _⟩)
 go_enter Tryz.func60, Tryz.ntmps60
 go_wp2
 go_ret2
 exact HB.out _ _
set_option maxHeartbeats 400000 in
theorem comparing_18 (w : World) : Calls Tryz.prog 60 #[.int .i64 18] w (TokPost true w) := by
 have HB : Hid (∀ (t : Int) (o : Obj), TokPost true w (.returned (.tuple #[.int .i8 t, .bool true])) (w.alloc o)) := Li (fun t o => ⟨t, rfl, (Below.refl _ _).alloc (Nat.le_refl _) _⟩)
 go_enter Tryz.func60, Tryz.ntmps60
 go_wp2
 go_ret2
 exact HB.out _ _
theorem unary_any (op : Int) (w : World) (h1 : 19 ≤ op) (h2 : op ≤ 22) : Calls Tryz.prog 58 #[.int .i64 op] w (TokPost true w) := by
 by_cases z19 : op = 19
 · subst z19; exact unary_19 w
 by_cases z20 : op = 20
 · subst z20; exact unary_20 w
 by_cases z21 : op = 21
 · subst z21; exact unary_21 w
 obtain rfl : op = 22 := by omega
 exact unary_22 w
theorem binary_yes (op : Int) (w : World) (h1 : 0 ≤ op) (h2 : op ≤ 12) : Calls Tryz.prog 59 #[.int .i64 op] w (TokPost true w) := by
 by_cases z0 : op = 0
 · subst z0; exact binary_0 w
 by_cases z1 : op = 1
 · subst z1; exact binary_1 w
 by_cases z2 : op = 2
 · subst z2; exact binary_2 w
 by_cases z3 : op = 3
 · subst z3; exact binary_3 w
 by_cases z4 : op = 4
 · subst z4; exact binary_4 w
 by_cases z5 : op = 5
 · subst z5; exact binary_5 w
 by_cases z6 : op = 6
 · subst z6; exact binary_6 w
 by_cases z7 : op = 7
 · subst z7; exact binary_7 w
 by_cases z8 : op = 8
 · subst z8; exact binary_8 w
 by_cases z9 : op = 9
 · subst z9; exact binary_9 w
 by_cases z10 : op = 10
 · subst z10; exact binary_10 w
 by_cases z11 : op = 11
 · subst z11; exact binary_11 w
 obtain rfl : op = 12 := by omega
 exact binary_12 w
theorem binary_no (op : Int) (w : World) (h1 : 13 ≤ op) (h2 : op ≤ 18) : Calls Tryz.prog 59 #[.int .i64 op] w (TokPost false w) := by
 by_cases z13 : op = 13
 · subst z13; exact binary_13 w
 by_cases z14 : op = 14
 · subst z14; exact binary_14 w
 by_cases z15 : op = 15
 · subst z15; exact binary_15 w
 by_cases z16 : op = 16
 · subst z16; exact binary_16 w
 by_cases z17 : op = 17
 · subst z17; exact binary_17 w
 obtain rfl : op = 18 := by omega
 exact binary_18 w
theorem comparing_any (op : Int) (w : World) (h1 : 13 ≤ op) (h2 : op ≤ 18) : Calls Tryz.prog 60 #[.int .i64 op] w (TokPost true w) := by
 by_cases z13 : op = 13
 · subst z13; exact comparing_13 w
 by_cases z14 : op = 14
 · subst z14; exact comparing_14 w
 by_cases z15 : op = 15
 · subst z15; exact comparing_15 w
 by_cases z16 : op = 16
 · subst z16; exact comparing_16 w
 by_cases z17 : op = 17
 · subst z17; exact comparing_17 w
 obtain rfl : op = 18 := by omega
 exact comparing_18 w
set_option maxHeartbeats 800000 in
theorem many_k1 (op vkd ub : Int) (tx vtx : ByteArray) (vnb : Bool) (ma ka sa pa : Option Addr) (ml mc kn kc sc pn pc : Nat) (w : World) :
   Calls Tryz.prog 46 #[.agg #[.int .i64 1, .int .i64 op, .string tx, .int .i64 vkd, .bool vnb, .slice ma ml mc, .int .u64 ub, .string vtx, .slice ka kn kc, .slice sa 0 sc, .slice pa pn pc]] w fun e w' => e = .returned (.bool true) ∧ Below w.heap.size w w' := by
 have HB : Hid (∀ o : Obj, Below w.heap.size w (w.alloc o)) := Li (fun o => (Below.refl _ _).alloc (Nat.le_refl _) _)
 go_enter Tryz.func46, Tryz.ntmps46
 go_wp2
 go_ret
 exact ⟨rfl, HB.out _⟩
set_option maxHeartbeats 800000 in
theorem many_k2 (op vkd ub : Int) (tx vtx : ByteArray) (vnb : Bool) (ma ka sa pa : Option Addr) (ml mc kn kc sc pn pc : Nat) (w : World) :
   Calls Tryz.prog 46 #[.agg #[.int .i64 2, .int .i64 op, .string tx, .int .i64 vkd, .bool vnb, .slice ma ml mc, .int .u64 ub, .string vtx, .slice ka kn kc, .slice sa 0 sc, .slice pa pn pc]] w fun e w' => e = .returned (.bool true) ∧ Below w.heap.size w w' := by
 have HB : Hid (∀ o : Obj, Below w.heap.size w (w.alloc o)) := Li (fun o => (Below.refl _ _).alloc (Nat.le_refl _) _)
 go_enter Tryz.func46, Tryz.ntmps46
 go_wp2
 go_ret
 exact ⟨rfl, HB.out _⟩
set_option maxHeartbeats 800000 in
theorem many_k6 (op vkd ub : Int) (tx vtx : ByteArray) (vnb : Bool) (ma ka sa pa : Option Addr) (ml mc kn kc sc pn pc : Nat) (w : World) :
   Calls Tryz.prog 46 #[.agg #[.int .i64 6, .int .i64 op, .string tx, .int .i64 vkd, .bool vnb, .slice ma ml mc, .int .u64 ub, .string vtx, .slice ka kn kc, .slice sa 1 sc, .slice pa pn pc]] w fun e w' => e = .returned (.bool true) ∧ Below w.heap.size w w' := by
 have HB : Hid (∀ o : Obj, Below w.heap.size w (w.alloc o)) := Li (fun o => (Below.refl _ _).alloc (Nat.le_refl _) _)
 go_enter Tryz.func46, Tryz.ntmps46
 go_wp2
 go_ret
 exact ⟨rfl, HB.out _⟩
set_option maxHeartbeats 800000 in
theorem many_k13 (op vkd ub : Int) (tx vtx : ByteArray) (vnb : Bool) (ma ka sa pa : Option Addr) (ml mc kn kc sc pn pc : Nat) (w : World) :
   Calls Tryz.prog 46 #[.agg #[.int .i64 13, .int .i64 op, .string tx, .int .i64 vkd, .bool vnb, .slice ma ml mc, .int .u64 ub, .string vtx, .slice ka kn kc, .slice sa 1 sc, .slice pa pn pc]] w fun e w' => e = .returned (.bool true) ∧ Below w.heap.size w w' := by
 have HB : Hid (∀ o : Obj, Below w.heap.size w (w.alloc o)) := Li (fun o => (Below.refl _ _).alloc (Nat.le_refl _) _)
 go_enter Tryz.func46, Tryz.ntmps46
 go_wp2
 go_ret
 exact ⟨rfl, HB.out _⟩
set_option maxHeartbeats 800000 in
theorem many_k18 (op vkd ub : Int) (tx vtx : ByteArray) (vnb : Bool) (ma ka sa pa : Option Addr) (ml mc kn kc sc pn pc : Nat) (w : World) :
   Calls Tryz.prog 46 #[.agg #[.int .i64 18, .int .i64 op, .string tx, .int .i64 vkd, .bool vnb, .slice ma ml mc, .int .u64 ub, .string vtx, .slice ka kn kc, .slice sa 1 sc, .slice pa pn pc]] w fun e w' => e = .returned (.bool true) ∧ Below w.heap.size w w' := by
 have HB : Hid (∀ o : Obj, Below w.heap.size w (w.alloc o)) := Li (fun o => (Below.refl _ _).alloc (Nat.le_refl _) _)
 go_enter Tryz.func46, Tryz.ntmps46
 go_wp2
 go_ret
 exact ⟨rfl, HB.out _⟩
set_option maxHeartbeats 800000 in
theorem many_k23 (op vkd ub : Int) (tx vtx : ByteArray) (vnb : Bool) (ma ka sa pa : Option Addr) (ml mc kn kc sc pn pc : Nat) (w : World) :
   Calls Tryz.prog 46 #[.agg #[.int .i64 23, .int .i64 op, .string tx, .int .i64 vkd, .bool vnb, .slice ma ml mc, .int .u64 ub, .string vtx, .slice ka kn kc, .slice sa 1 sc, .slice pa pn pc]] w fun e w' => e = .returned (.bool true) ∧ Below w.heap.size w w' := by
 have HB : Hid (∀ o : Obj, Below w.heap.size w (w.alloc o)) := Li (fun o => (Below.refl _ _).alloc (Nat.le_refl _) _)
 go_enter Tryz.func46, Tryz.ntmps46
 go_wp2
 go_ret
 exact ⟨rfl, HB.out _⟩
set_option maxHeartbeats 800000 in
theorem many_k7 (op vkd ub : Int) (tx vtx : ByteArray) (vnb : Bool) (ma ka sa pa : Option Addr) (ml mc kn kc sc pn pc : Nat) (w : World) :
   Calls Tryz.prog 46 #[.agg #[.int .i64 7, .int .i64 op, .string tx, .int .i64 vkd, .bool vnb, .slice ma ml mc, .int .u64 ub, .string vtx, .slice ka kn kc, .slice sa 2 sc, .slice pa pn pc]] w fun e w' => e = .returned (.bool true) ∧ Below w.heap.size w w' := by
 have HB : Hid (∀ o : Obj, Below w.heap.size w (w.alloc o)) := Li (fun o => (Below.refl _ _).alloc (Nat.le_refl _) _)
 go_enter Tryz.func46, Tryz.ntmps46
 go_wp2
 go_ret
 exact ⟨rfl, HB.out _⟩
set_option maxHeartbeats 800000 in
theorem many_k8 (op vkd ub : Int) (tx vtx : ByteArray) (vnb : Bool) (ma ka sa pa : Option Addr) (ml mc kn kc sc pn pc : Nat) (w : World) :
   Calls Tryz.prog 46 #[.agg #[.int .i64 8, .int .i64 op, .string tx, .int .i64 vkd, .bool vnb, .slice ma ml mc, .int .u64 ub, .string vtx, .slice ka kn kc, .slice sa 2 sc, .slice pa pn pc]] w fun e w' => e = .returned (.bool true) ∧ Below w.heap.size w w' := by
 have HB : Hid (∀ o : Obj, Below w.heap.size w (w.alloc o)) := Li (fun o => (Below.refl _ _).alloc (Nat.le_refl _) _)
 go_enter Tryz.func46, Tryz.ntmps46
 go_wp2
 go_ret
 exact ⟨rfl, HB.out _⟩
set_option maxHeartbeats 800000 in
theorem many_k9 (op vkd ub : Int) (tx vtx : ByteArray) (vnb : Bool) (ma ka sa pa : Option Addr) (ml mc kn kc sc pn pc : Nat) (w : World) :
   Calls Tryz.prog 46 #[.agg #[.int .i64 9, .int .i64 op, .string tx, .int .i64 vkd, .bool vnb, .slice ma ml mc, .int .u64 ub, .string vtx, .slice ka kn kc, .slice sa 2 sc, .slice pa pn pc]] w fun e w' => e = .returned (.bool true) ∧ Below w.heap.size w w' := by
 have HB : Hid (∀ o : Obj, Below w.heap.size w (w.alloc o)) := Li (fun o => (Below.refl _ _).alloc (Nat.le_refl _) _)
 go_enter Tryz.func46, Tryz.ntmps46
 go_wp2
 go_ret
 exact ⟨rfl, HB.out _⟩
set_option maxHeartbeats 800000 in
theorem many_k11 (op vkd ub : Int) (tx vtx : ByteArray) (vnb : Bool) (ma ka sa pa : Option Addr) (ml mc kn kc sc pn pc : Nat) (w : World) :
   Calls Tryz.prog 46 #[.agg #[.int .i64 11, .int .i64 op, .string tx, .int .i64 vkd, .bool vnb, .slice ma ml mc, .int .u64 ub, .string vtx, .slice ka kn kc, .slice sa 2 sc, .slice pa pn pc]] w fun e w' => e = .returned (.bool true) ∧ Below w.heap.size w w' := by
 have HB : Hid (∀ o : Obj, Below w.heap.size w (w.alloc o)) := Li (fun o => (Below.refl _ _).alloc (Nat.le_refl _) _)
 go_enter Tryz.func46, Tryz.ntmps46
 go_wp2
 go_ret
 exact ⟨rfl, HB.out _⟩
set_option maxHeartbeats 800000 in
theorem many_k10 (op vkd ub : Int) (tx vtx : ByteArray) (vnb : Bool) (ma ka sa pa : Option Addr) (ml mc kn kc sc pn pc : Nat) (w : World) :
   Calls Tryz.prog 46 #[.agg #[.int .i64 10, .int .i64 op, .string tx, .int .i64 vkd, .bool vnb, .slice ma ml mc, .int .u64 ub, .string vtx, .slice ka kn kc, .slice sa 3 sc, .slice pa pn pc]] w fun e w' => e = .returned (.bool true) ∧ Below w.heap.size w w' := by
 have HB : Hid (∀ o : Obj, Below w.heap.size w (w.alloc o)) := Li (fun o => (Below.refl _ _).alloc (Nat.le_refl _) _)
 go_enter Tryz.func46, Tryz.ntmps46
 go_wp2
 go_ret
 exact ⟨rfl, HB.out _⟩
set_option maxHeartbeats 800000 in
theorem many_k12 (op vkd ub : Int) (tx vtx : ByteArray) (vnb : Bool) (ma ka sa pa : Option Addr) (ml mc kn kc sc pn pc : Nat) (w : World) :
   Calls Tryz.prog 46 #[.agg #[.int .i64 12, .int .i64 op, .string tx, .int .i64 vkd, .bool vnb, .slice ma ml mc, .int .u64 ub, .string vtx, .slice ka kn kc, .slice sa 4 sc, .slice pa pn pc]] w fun e w' => e = .returned (.bool true) ∧ Below w.heap.size w w' := by
 have HB : Hid (∀ o : Obj, Below w.heap.size w (w.alloc o)) := Li (fun o => (Below.refl _ _).alloc (Nat.le_refl _) _)
 go_enter Tryz.func46, Tryz.ntmps46
 go_wp2
 go_ret
 exact ⟨rfl, HB.out _⟩
set_option maxHeartbeats 800000 in
theorem many_k14 (op vkd ub : Int) (tx vtx : ByteArray) (vnb : Bool) (ma ka sa pa : Option Addr) (ml mc kn kc sn sc pn pc : Nat) (w : World) (hs : 1 ≤ sn) :
   Calls Tryz.prog 46 #[.agg #[.int .i64 14, .int .i64 op, .string tx, .int .i64 vkd, .bool vnb, .slice ma ml mc, .int .u64 ub, .string vtx, .slice ka kn kc, .slice sa sn sc, .slice pa pn pc]] w fun e w' => e = .returned (.bool true) ∧ Below w.heap.size w w' := by
 have HB : Hid (∀ o : Obj, Below w.heap.size w (w.alloc o)) := Li (fun o => (Below.refl _ _).alloc (Nat.le_refl _) _)
 have hd : decide ((1 : Int) ≤ (sn : Int)) = true := decide_eq_true (by omega)
 go_enter Tryz.func46, Tryz.ntmps46
 go_wp2
 go_ret
 exact ⟨rfl, HB.out _⟩
set_option maxHeartbeats 800000 in
theorem many_k3 (op vkd ub : Int) (tx vtx : ByteArray) (vnb : Bool) (ma ka sa pa : Option Addr) (ml mc kn kc sn sc pn pc : Nat) (w : World) :
   Calls Tryz.prog 46 #[.agg #[.int .i64 3, .int .i64 op, .string tx, .int .i64 vkd, .bool vnb, .slice ma ml mc, .int .u64 ub, .string vtx, .slice ka kn kc, .slice sa sn sc, .slice pa pn pc]] w fun e w' => e = .returned (.bool true) ∧ Below w.heap.size w w' := by
 have HB : Hid (∀ o : Obj, Below w.heap.size w (w.alloc o)) := Li (fun o => (Below.refl _ _).alloc (Nat.le_refl _) _)
 go_enter Tryz.func46, Tryz.ntmps46
 go_wp2
 go_ret
 exact ⟨rfl, HB.out _⟩
set_option maxHeartbeats 800000 in
theorem many_k4 (op vkd ub : Int) (tx vtx : ByteArray) (vnb : Bool) (ma ka sa pa : Option Addr) (ml mc kn kc sn sc pn pc : Nat) (w : World) :
   Calls Tryz.prog 46 #[.agg #[.int .i64 4, .int .i64 op, .string tx, .int .i64 vkd, .bool vnb, .slice ma ml mc, .int .u64 ub, .string vtx, .slice ka kn kc, .slice sa sn sc, .slice pa pn pc]] w fun e w' => e = .returned (.bool true) ∧ Below w.heap.size w w' := by
 have HB : Hid (∀ o : Obj, Below w.heap.size w (w.alloc o)) := Li (fun o => (Below.refl _ _).alloc (Nat.le_refl _) _)
 go_enter Tryz.func46, Tryz.ntmps46
 go_wp2
 go_ret
 exact ⟨rfl, HB.out _⟩
set_option maxHeartbeats 800000 in
theorem many_k5 (op vkd ub : Int) (tx vtx : ByteArray) (vnb : Bool) (ma ka sa pa : Option Addr) (ml mc kn kc sn sc pn pc : Nat) (w : World) (hs : sn % 2 = 0) :
   Calls Tryz.prog 46 #[.agg #[.int .i64 5, .int .i64 op, .string tx, .int .i64 vkd, .bool vnb, .slice ma ml mc, .int .u64 ub, .string vtx, .slice ka kn kc, .slice sa sn sc, .slice pa pn pc]] w fun e w' => e = .returned (.bool true) ∧ Below w.heap.size w w' := by
 have HB : Hid (∀ o : Obj, Below w.heap.size w (w.alloc o)) := Li (fun o => (Below.refl _ _).alloc (Nat.le_refl _) _)
 have hd : ((sn : Int) % 2 == 0) = true := by rw [beq_iff_eq]; omega
 clear hs
 go_enter Tryz.func46, Tryz.ntmps46
 go_wp2
 go_ret
 exact ⟨rfl, HB.out _⟩
set_option maxHeartbeats 800000 in
theorem many_k19 (op vkd ub : Int) (tx vtx : ByteArray) (vnb : Bool) (ma ka sa pa : Option Addr) (ml mc kn kc sn sc pn pc : Nat) (w : World) (b o : Nat) (hs : 2 ≤ sn) (hsa : sa = some ⟨b, o, none⟩) (hc : w.cell? ⟨b, o + 11, none⟩ = some (.int .i64 21)) :
   Calls Tryz.prog 46 #[.agg #[.int .i64 19, .int .i64 op, .string tx, .int .i64 vkd, .bool vnb, .slice ma ml mc, .int .u64 ub, .string vtx, .slice ka kn kc, .slice sa sn sc, .slice pa pn pc]] w fun e w' => e = .returned (.bool true) ∧ Below w.heap.size w w' := by
 have HB : Hid (∀ o : Obj, Below w.heap.size w (w.alloc o)) := Li (fun o => (Below.refl _ _).alloc (Nat.le_refl _) _)
 subst hsa
 have hd : decide ((2 : Int) ≤ (sn : Int)) = true := decide_eq_true (by omega)
 have hd2 : (0 : Int) ≤ (sn : Int) := by omega
 have lb := lt_of_cell hc
 have hi1 : ((1 : Int)) < (sn : Int) := by omega
 go_enter Tryz.func46, Tryz.ntmps46
 go_wp2
 go_ret
 exact ⟨rfl, HB.out _⟩
set_option maxHeartbeats 800000 in
theorem many_k20 (op vkd ub : Int) (tx vtx : ByteArray) (vnb : Bool) (ma ka sa pa : Option Addr) (ml mc kn kc sn sc pn pc : Nat) (w : World) (b o : Nat) (hs : 3 ≤ sn) (hsa : sa = some ⟨b, o, none⟩) (hc : w.cell? ⟨b, o + 22, none⟩ = some (.int .i64 21)) :
   Calls Tryz.prog 46 #[.agg #[.int .i64 20, .int .i64 op, .string tx, .int .i64 vkd, .bool vnb, .slice ma ml mc, .int .u64 ub, .string vtx, .slice ka kn kc, .slice sa sn sc, .slice pa pn pc]] w fun e w' => e = .returned (.bool true) ∧ Below w.heap.size w w' := by
 have HB : Hid (∀ o : Obj, Below w.heap.size w (w.alloc o)) := Li (fun o => (Below.refl _ _).alloc (Nat.le_refl _) _)
 subst hsa
 have hd : decide ((3 : Int) ≤ (sn : Int)) = true := decide_eq_true (by omega)
 have hd2 : (0 : Int) ≤ (sn : Int) := by omega
 have lb := lt_of_cell hc
 have hi1 : ((2 : Int)) < (sn : Int) := by omega
 go_enter Tryz.func46, Tryz.ntmps46
 go_wp2
 go_ret
 exact ⟨rfl, HB.out _⟩
end Go.Proofs.YtoojgjhfmmohbaaGreat
