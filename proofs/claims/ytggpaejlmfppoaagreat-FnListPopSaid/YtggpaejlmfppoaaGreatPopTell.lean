/- impl.tellScalar at scalars of all six kinds: printed by genpoptell.py. -/
import Derived.Test.YtggpaejlmfppoaaGreatPopList
import Derived.Test.YtggpaejlmfppoaaGreatAsInt
import Derived.WalkSpells
namespace Go.Proofs.YtggpaejlmfppoaaGreat
open Go.RowKit Dig
set_option linter.unusedVariables false
set_option linter.unusedSimpArgs false
set_option maxRecDepth 100000

theorem tl_non_non (w : World) : (Instr.typeAssert (.iface 81 (.int .u8 0)) 47 81 true).run Tryz.prog w = .ok (.tuple #[.int .u8 0, .bool true]) w := by kernel_rfl
theorem tl_boo_non (b : Bool) (w : World) : (Instr.typeAssert (.iface 82 (.bool b)) 47 81 true).run Tryz.prog w = .ok (.tuple #[.int .u8 0, .bool false]) w := by kernel_rfl
theorem tl_boo_boo (b : Bool) (w : World) : (Instr.typeAssert (.iface 82 (.bool b)) 47 82 true).run Tryz.prog w = .ok (.tuple #[.bool b, .bool true]) w := by kernel_rfl
theorem tl_int_non (v : Value) (w : World) : (Instr.typeAssert (.iface 87 (v)) 47 81 true).run Tryz.prog w = .ok (.tuple #[.int .u8 0, .bool false]) w := by kernel_rfl
theorem tl_int_boo (v : Value) (w : World) : (Instr.typeAssert (.iface 87 (v)) 47 82 true).run Tryz.prog w = .ok (.tuple #[.bool false, .bool false]) w := by kernel_rfl
theorem tl_int_int (v : Value) (w : World) : (Instr.typeAssert (.iface 87 (v)) 47 87 true).run Tryz.prog w = .ok (.tuple #[v, .bool true]) w := by kernel_rfl
theorem tl_flt_non (n : Nat) (w : World) : (Instr.typeAssert (.iface 89 (.float .f64 n)) 47 81 true).run Tryz.prog w = .ok (.tuple #[.int .u8 0, .bool false]) w := by kernel_rfl
theorem tl_flt_boo (n : Nat) (w : World) : (Instr.typeAssert (.iface 89 (.float .f64 n)) 47 82 true).run Tryz.prog w = .ok (.tuple #[.bool false, .bool false]) w := by kernel_rfl
theorem tl_flt_int (n : Nat) (w : World) : (Instr.typeAssert (.iface 89 (.float .f64 n)) 47 87 true).run Tryz.prog w = .ok (.tuple #[.agg #[.int .i64 0, .pointer none], .bool false]) w := by kernel_rfl
theorem tl_flt_flt (n : Nat) (w : World) : (Instr.typeAssert (.iface 89 (.float .f64 n)) 47 89 true).run Tryz.prog w = .ok (.tuple #[.float .f64 n, .bool true]) w := by kernel_rfl
theorem tl_str_non (s : ByteArray) (w : World) : (Instr.typeAssert (.iface 91 (.string s)) 47 81 true).run Tryz.prog w = .ok (.tuple #[.int .u8 0, .bool false]) w := by kernel_rfl
theorem tl_str_boo (s : ByteArray) (w : World) : (Instr.typeAssert (.iface 91 (.string s)) 47 82 true).run Tryz.prog w = .ok (.tuple #[.bool false, .bool false]) w := by kernel_rfl
theorem tl_str_int (s : ByteArray) (w : World) : (Instr.typeAssert (.iface 91 (.string s)) 47 87 true).run Tryz.prog w = .ok (.tuple #[.agg #[.int .i64 0, .pointer none], .bool false]) w := by kernel_rfl
theorem tl_str_flt (s : ByteArray) (w : World) : (Instr.typeAssert (.iface 91 (.string s)) 47 89 true).run Tryz.prog w = .ok (.tuple #[.float .f64 0, .bool false]) w := by kernel_rfl
theorem tl_str_str (s : ByteArray) (w : World) : (Instr.typeAssert (.iface 91 (.string s)) 47 91 true).run Tryz.prog w = .ok (.tuple #[.string s, .bool true]) w := by kernel_rfl
theorem tl_byt_non (s : ByteArray) (w : World) : (Instr.typeAssert (.iface 92 (.string s)) 47 81 true).run Tryz.prog w = .ok (.tuple #[.int .u8 0, .bool false]) w := by kernel_rfl
theorem tl_byt_boo (s : ByteArray) (w : World) : (Instr.typeAssert (.iface 92 (.string s)) 47 82 true).run Tryz.prog w = .ok (.tuple #[.bool false, .bool false]) w := by kernel_rfl
theorem tl_byt_int (s : ByteArray) (w : World) : (Instr.typeAssert (.iface 92 (.string s)) 47 87 true).run Tryz.prog w = .ok (.tuple #[.agg #[.int .i64 0, .pointer none], .bool false]) w := by kernel_rfl
theorem tl_byt_flt (s : ByteArray) (w : World) : (Instr.typeAssert (.iface 92 (.string s)) 47 89 true).run Tryz.prog w = .ok (.tuple #[.float .f64 0, .bool false]) w := by kernel_rfl
theorem tl_byt_str (s : ByteArray) (w : World) : (Instr.typeAssert (.iface 92 (.string s)) 47 91 true).run Tryz.prog w = .ok (.tuple #[.string ByteArray.empty, .bool false]) w := by kernel_rfl
theorem tl_byt_byt (s : ByteArray) (w : World) : (Instr.typeAssert (.iface 92 (.string s)) 47 92 true).run Tryz.prog w = .ok (.tuple #[.string s, .bool true]) w := by kernel_rfl

/-- what is told of a scalar -/
def TlPost (x : Cel) (w : World) (e : Ending) (w' : World) : Prop := ∃ n a l c s, e = .returned (.agg #[.int .i64 x.kind, .bool n, .slice a l c, .int .u64 x.bits, .string s, .slice none 0 0]) ∧ VaC w' w'.heap.size (.agg #[.int .i64 x.kind, .bool n, .slice a l c, .int .u64 x.bits, .string s, .slice none 0 0]) x ∧ Below w.heap.size w w'
theorem tl_post {x : Cel} {w w' : World} {n : Bool} {a : Option Addr} {l c : Nat} {s : ByteArray} {kd ub : Int} (hk : kd = x.kind) (hu : ub = x.bits) (h : VaC w' w'.heap.size (.agg #[.int .i64 kd, .bool n, .slice a l c, .int .u64 ub, .string s, .slice none 0 0]) x) (hb : Below w.heap.size w w') : TlPost x w (.returned (.agg #[.int .i64 kd, .bool n, .slice a l c, .int .u64 ub, .string s, .slice none 0 0])) w' := by
  subst hk hu; exact ⟨n, a, l, c, s, rfl, h, hb⟩
set_option maxHeartbeats 1600000 in
theorem tell_non (w : World) : Calls Tryz.prog 16 #[.iface 81 (.int .u8 0)] w (TlPost (.non) w) := by
  have i0 := tl_non_non
  have HB : Hid (Below w.heap.size w (w.alloc (.cells #[.int .i64 0, .bool false, .slice none 0 0, .int .u64 0, .string ByteArray.empty, .slice none 0 0] 27))) := Lib.hid ((Below.refl _ _).alloc (Nat.le_refl _) _)
  go_enter Tryz.func16, Tryz.ntmps16
  go_wp2_with fail
  refine bodyPost_ret (v := .agg #[.int .i64 0, .bool false, .slice none 0 0, .int .u64 0, .string ByteArray.empty, .slice none 0 0]) (by simp [results, Tryz.results16, go_sem] <;> rfl) rfl ?_
  exact tl_post (n := false) (a := none) (l := 0) (c := 0) rfl rfl (by first | rfl | simp [VaC]) HB.out
set_option maxHeartbeats 1600000 in
theorem tell_boo1 (w : World) : Calls Tryz.prog 16 #[.iface 82 (.bool true)] w (TlPost (.boo true) w) := by
  have i0 := tl_boo_non
  have i1 := tl_boo_boo
  have HB : Hid (Below w.heap.size w (w.alloc (.cells #[.int .i64 1, .bool false, .slice none 0 0, .int .u64 1, .string ByteArray.empty, .slice none 0 0] 27))) := Lib.hid ((Below.refl _ _).alloc (Nat.le_refl _) _)
  go_enter Tryz.func16, Tryz.ntmps16
  go_wp2_with fail
  refine bodyPost_ret (v := .agg #[.int .i64 1, .bool false, .slice none 0 0, .int .u64 1, .string ByteArray.empty, .slice none 0 0]) (by simp [results, Tryz.results16, go_sem] <;> rfl) rfl ?_
  exact tl_post (n := false) (a := none) (l := 0) (c := 0) rfl rfl (by first | rfl | simp [VaC]) HB.out
set_option maxHeartbeats 1600000 in
theorem tell_boo0 (w : World) : Calls Tryz.prog 16 #[.iface 82 (.bool false)] w (TlPost (.boo false) w) := by
  have i0 := tl_boo_non
  have i1 := tl_boo_boo
  have HB : Hid (Below w.heap.size w (w.alloc (.cells #[.int .i64 1, .bool false, .slice none 0 0, .int .u64 0, .string ByteArray.empty, .slice none 0 0] 27))) := Lib.hid ((Below.refl _ _).alloc (Nat.le_refl _) _)
  go_enter Tryz.func16, Tryz.ntmps16
  go_wp2_with fail
  refine bodyPost_ret (v := .agg #[.int .i64 1, .bool false, .slice none 0 0, .int .u64 0, .string ByteArray.empty, .slice none 0 0]) (by simp [results, Tryz.results16, go_sem] <;> rfl) rfl ?_
  exact tl_post (n := false) (a := none) (l := 0) (c := 0) rfl rfl (by first | rfl | simp [VaC]) HB.out
set_option maxHeartbeats 1600000 in
theorem tell_flt (u : Int) (w : World) (hu : 0 ≤ u) : Calls Tryz.prog 16 #[.iface 89 (.float .f64 u.toNat)] w (TlPost (.flt u) w) := by
  have i0 := tl_flt_non
  have i1 := tl_flt_boo
  have i2 := tl_flt_int
  have i3 := tl_flt_flt
  go_enter Tryz.func16, Tryz.ntmps16
  go_wp2_with fail
  refine (bitsOf_any _ _).mono ?_
  rintro e w1 ⟨rfl, rfl⟩
  rw [Int.toNat_of_nonneg hu]
  have HB : Hid (Below w.heap.size w (w.alloc (.cells #[.int .i64 3, .bool false, .slice none 0 0, .int .u64 u, .string ByteArray.empty, .slice none 0 0] 27))) := Lib.hid ((Below.refl _ _).alloc (Nat.le_refl _) _)
  clear hu
  go_wp2_with fail
  refine bodyPost_ret (v := .agg #[.int .i64 3, .bool false, .slice none 0 0, .int .u64 u, .string ByteArray.empty, .slice none 0 0]) (by simp [results, Tryz.results16, go_sem] <;> rfl) rfl ?_
  exact tl_post (n := false) (a := none) (l := 0) (c := 0) rfl rfl (by first | rfl | simp [VaC]) HB.out
set_option maxHeartbeats 1600000 in
theorem tell_str (s : ByteArray) (w : World) : Calls Tryz.prog 16 #[.iface 91 (.string s)] w (TlPost (.str s) w) := by
  have i0 := tl_str_non
  have i1 := tl_str_boo
  have i2 := tl_str_int
  have i3 := tl_str_flt
  have i4 := tl_str_str
  have HB : Hid (Below w.heap.size w (w.alloc (.cells #[.int .i64 4, .bool false, .slice none 0 0, .int .u64 0, .string s, .slice none 0 0] 27))) := Lib.hid ((Below.refl _ _).alloc (Nat.le_refl _) _)
  go_enter Tryz.func16, Tryz.ntmps16
  go_wp2_with fail
  refine bodyPost_ret (v := .agg #[.int .i64 4, .bool false, .slice none 0 0, .int .u64 0, .string s, .slice none 0 0]) (by simp [results, Tryz.results16, go_sem] <;> rfl) rfl ?_
  exact tl_post (n := false) (a := none) (l := 0) (c := 0) rfl rfl (by first | rfl | simp [VaC]) HB.out
set_option maxHeartbeats 1600000 in
theorem tell_byt (s : ByteArray) (w : World) : Calls Tryz.prog 16 #[.iface 92 (.string s)] w (TlPost (.byt s) w) := by
  have i0 := tl_byt_non
  have i1 := tl_byt_boo
  have i2 := tl_byt_int
  have i3 := tl_byt_flt
  have i4 := tl_byt_str
  have i5 := tl_byt_byt
  have HB : Hid (Below w.heap.size w (w.alloc (.cells #[.int .i64 5, .bool false, .slice none 0 0, .int .u64 0, .string s, .slice none 0 0] 27))) := Lib.hid ((Below.refl _ _).alloc (Nat.le_refl _) _)
  go_enter Tryz.func16, Tryz.ntmps16
  go_wp2_with fail
  refine bodyPost_ret (v := .agg #[.int .i64 5, .bool false, .slice none 0 0, .int .u64 0, .string s, .slice none 0 0]) (by simp [results, Tryz.results16, go_sem] <;> rfl) rfl ?_
  exact tl_post (n := false) (a := none) (l := 0) (c := 0) rfl rfl (by first | rfl | simp [VaC]) HB.out
set_option maxHeartbeats 1600000 in
theorem tell_int (i : Int) (s : Int) (q : Option Addr) (w : World) (hv : In w w.heap.size (.agg #[.int .i64 s, .pointer q]) i) (hl : i.natAbs < lim) : Calls Tryz.prog 16 #[.iface 87 (.agg #[.int .i64 s, .pointer q])] w (TlPost (.int i) w) := by
  have i0 := tl_int_non
  have i1 := tl_int_boo
  have i2 := tl_int_int
  have hb0 : Below w.heap.size w ((w.alloc (.cells zeroVal.toArray 27)).alloc (.cells #[.int .i64 s, .pointer q] 87)) := ((Below.refl _ _).alloc (Nat.le_refl _) _).alloc (by simp) _
  have C := Lib.hid (number_any _ i _ ((hv.below hb0).more hb0.size) hl)
  have HB0 := Lib.hid hb0
  have hk0 : Blk ((w.alloc (.cells zeroVal.toArray 27)).alloc (.cells #[.int .i64 s, .pointer q] 87)) w.heap.size 27 zeroVal := (Blk.new w _ zeroVal).alloc _
  have HK0 := Lib.hid hk0
  clear hv hl hb0 hk0
  unfold zeroVal at C HB0 HK0
  go_enter Tryz.func16, Tryz.ntmps16
  go_wp2_with fail
  refine C.out.mono ?_
  rintro e w1 ⟨v, rfl, hva, hb1⟩
  have hk1 := HK0.out.below hb1 HK0.out.lt
  have c0 := hk1.cell 0 (by simp)
  have c1 := hk1.cell 1 (by simp)
  have c2 := hk1.cell 2 (by simp)
  have c3 := hk1.cell 3 (by simp)
  have c4 := hk1.cell 4 (by simp)
  have c5 := hk1.cell 5 (by simp)
  have f0 := hk1.free 0
  have f1 := hk1.free 1
  have f2 := hk1.free 2
  have f3 := hk1.free 3
  have f4 := hk1.free 4
  have f5 := hk1.free 5
  have lk := hk1.lt
  obtain ⟨n, a, k, c, rfl⟩ := Va.parts hva
  have hbw := HB0.out.trans (hb1.mono HB0.out.size)
  have FIN : Hid (∀ W, W = ((((((w1.setCell ⟨w.heap.size, 0, none⟩ (.int .i64 2)).setCell ⟨w.heap.size, 1, none⟩ (.bool n)).setCell ⟨w.heap.size, 2, none⟩ (.slice a k c)).setCell ⟨w.heap.size, 3, none⟩ (.int .u64 0)).setCell ⟨w.heap.size, 4, none⟩ (.string ByteArray.empty)).setCell ⟨w.heap.size, 5, none⟩ (.slice none 0 0)) → TlPost (.int i) w (.returned (.agg #[.int .i64 2, .bool n, .slice a k c, .int .u64 0, .string ByteArray.empty, .slice none 0 0])) W) := Lib.hid (by
    rintro W rfl
    refine tl_post (x := .int i) rfl rfl (vaC_six (x := .int i) hva hk1 zero_bv _ _ _ _ _ _) ?_
    exact (((((hbw.setCell (p := ⟨_, 0, none⟩) (Nat.le_refl _) _).setCell (p := ⟨_, 1, none⟩) (Nat.le_refl _) _).setCell (p := ⟨_, 2, none⟩) (Nat.le_refl _) _).setCell (p := ⟨_, 3, none⟩) (Nat.le_refl _) _).setCell (p := ⟨_, 4, none⟩) (Nat.le_refl _) _).setCell (p := ⟨_, 5, none⟩) (Nat.le_refl _) _)
  clear hva hb1 hk1 hbw
  go_wp2_with fail
  refine bodyPost_ret (v := .agg #[.int .i64 2, .bool n, .slice a k c, .int .u64 0, .string ByteArray.empty, .slice none 0 0]) (by simp [results, Tryz.results16, go_sem, c0, c1, c2, c3, c4, c5] <;> rfl) rfl ?_
  exact FIN.out _ rfl

theorem tellScalar_any (x : Cel) (T : TypeId) (y : Value) (w : World) (h : SC w w.heap.size (.iface T y) x) (hx : x.ok) : Calls Tryz.prog 16 #[.iface T y] w (TlPost x w) := by
  cases x with
  | int i =>
    obtain ⟨s, q, hq, hin⟩ := h
    obtain ⟨rfl, rfl⟩ : T = 87 ∧ y = .agg #[.int .i64 s, .pointer q] := by simpa using hq
    exact tell_int i s q w hin hx
  | non =>
    obtain ⟨rfl, rfl⟩ : T = 81 ∧ y = .int .u8 0 := by have h : Value.iface T y = _ := h; simpa using h
    exact tell_non w
  | boo t =>
    obtain ⟨rfl, rfl⟩ : T = 82 ∧ y = .bool t := by have h : Value.iface T y = _ := h; simpa using h
    cases t with
    | true => exact tell_boo1 w
    | false => exact tell_boo0 w
  | flt u =>
    obtain ⟨rfl, rfl⟩ : T = 89 ∧ y = .float .f64 u.toNat := by have h : Value.iface T y = _ := h; simpa using h
    exact tell_flt u w hx
  | str s =>
    obtain ⟨rfl, rfl⟩ : T = 91 ∧ y = .string s := by have h : Value.iface T y = _ := h; simpa using h
    exact tell_str s w
  | byt s =>
    obtain ⟨rfl, rfl⟩ : T = 92 ∧ y = .string s := by have h : Value.iface T y = _ := h; simpa using h
    exact tell_byt s w
end Go.Proofs.YtggpaejlmfppoaaGreat
