/- errors.New, starlark.AsInt32 of an integer. -/
import Derived.Test.YtoggalnjjhcmkaaGreatWhole2
namespace Go.Proofs.YtoggalnjjhcmkaaGreat
open Go.RowKit Dig
set_option linter.unusedVariables false
set_option linter.unusedSimpArgs false
set_option maxRecDepth 100000

/-- an error of the library's -/
def ErrPost (w : World) (e : Ending) (w' : World) : Prop := ∃ b, e = .returned (.iface 229 (.pointer (some ⟨b, 0, none⟩))) ∧ Below w.heap.size w w'
theorem errNew_any (s : ByteArray) (w : World) : Calls Tryz.prog 130 #[.string s] w (ErrPost w) := by
  go_enter Tryz.func130, Tryz.ntmps130
  go_wp2_with fail
  go_ret
  exact ⟨_, rfl, (Below.refl _ _).alloc (Nat.le_refl _) _⟩

theorem assertIntOk (v : Value) (w : World) : (Instr.typeAssert (.iface 120 v) 77 120 true).run Tryz.prog w = .ok (.tuple #[v, .bool true]) w := by kernel_rfl
/-- the number, or an error -/
def A32Post (i : Int) (w : World) (e : Ending) (w' : World) : Prop :=
  Below w.heap.size w w' ∧ ((-2147483648 ≤ i ∧ i ≤ 2147483647 ∧ e = .returned (.tuple #[.int .i64 i, .nilIface])) ∨ (¬ (-2147483648 ≤ i ∧ i ≤ 2147483647) ∧ ∃ b, e = .returned (.tuple #[.int .i64 0, .iface 229 (.pointer (some ⟨b, 0, none⟩))])))
set_option maxHeartbeats 800000 in
theorem asInt32_any (v : Value) (i : Int) (w : World) (hv : In w w.heap.size v i) : Calls Tryz.prog 171 #[.iface 120 v] w (A32Post i w) := by
  obtain ⟨s, p, rfl, h⟩ := hv
  have hta := assertIntOk
  have HB0 : ∀ s p, Hid (Below w.heap.size w ((w.alloc (.cells #[.int .i64 s, .pointer p] 120)))) := fun s p => (Below.refl _ _).alloc (Nat.le_refl _) _
  rcases h with ⟨rfl, rfl, h1, h2⟩ | ⟨rfl, h0, b, abs, rfl, hb, _, _⟩
  · have HB := HB0 s none
    clear HB0
    go_enter Tryz.func171, Tryz.ntmps171
    go_wp2_with fail
    refine (get_any _ _ _).mono ?_
    rintro e w1 ⟨rfl, hb1⟩
    have HB1 := Lib.hid (HB.out.trans (hb1.mono HB.out.size))
    clear hb1
    go_wp2_with fail
    go_ret2
    exact ⟨HB1.out, .inl ⟨h1, h2, rfl⟩⟩
  · have H0 := Lib.hid h0
    have HB := HB0 0 (some ⟨b, 0, none⟩)
    clear HB0 h0
    go_enter Tryz.func171, Tryz.ntmps171
    go_wp2_with fail
    refine (get_any _ _ _).mono ?_
    rintro e w1 ⟨rfl, hb1⟩
    have HB1 := Lib.hid (HB.out.trans (hb1.mono HB.out.size))
    clear hb1
    go_wp2_with fail
    refine (errNew_any _ _).mono ?_
    rintro e w2 ⟨q, rfl, hb2⟩
    have HB2 := Lib.hid (HB1.out.trans (hb2.mono HB1.out.size))
    clear hb2
    go_wp2_with fail
    go_ret2
    exact ⟨HB2.out, .inr ⟨H0.out, _, rfl⟩⟩
end Go.Proofs.YtoggalnjjhcmkaaGreat
