/- starlark.list_pop (printed by genpoppop.py). -/
import Derived.Test.YtggpaejlmfppoaaGreatPopUnp
import Derived.Test.YtggpaejlmfppoaaGreatPopList
import Derived.Deep.RegionLaw
namespace Go.Proofs.YtggpaejlmfppoaaGreat
open Go.RowKit Dig
set_option linter.unusedVariables false
set_option linter.unusedSimpArgs false
set_option maxRecDepth 100000

/-- the place that is asked for, if it is one; j: none is named -/
def askJ (ats : List Cel) (j : Int) : Option Int :=
  match ats with
  | [] => some j
  | x :: _ => placeOf x
/-- the place, counted from the end on if it is below 0 -/
def popIdx (n : Nat) (i : Int) : Option Nat :=
  let j := if i < 0 then i + (n : Int) else i
  if 0 ≤ j ∧ j < (n : Int) then some j.toNat else none
def popAt (ats : List Cel) (n : Nat) : Option Nat := (askJ ats ((n : Int) - 1)).bind (popIdx n)
/-- no argument, or one, in memory -/
def PArgs (w : World) (v : Value) (ats : List Cel) : Prop :=
  (∃ a c, ats = [] ∧ v = .slice a 0 c) ∨ (∃ x ga c T y, ats = [x] ∧ v = .slice (some ⟨ga, 0, none⟩) 1 c ∧ w.cell? ⟨ga, 0, none⟩ = some (.iface T y) ∧ SC w w.heap.size (.iface T y) x ∧ x.ok)
theorem PArgs.below {w w' : World} {v : Value} {ats : List Cel} (h : PArgs w v ats) (hb : Below w.heap.size w w') : PArgs w' v ats := by
  rcases h with h | ⟨x, ga, c, T, y, h1, h2, h3, h4, h5⟩
  · exact .inl h
  · exact .inr ⟨x, ga, c, T, y, h1, h2, (hb.cell (p := ⟨ga, 0, none⟩) (lt_of_cell h3)).trans h3, (h4.below hb).more hb.size, h5⟩
theorem PArgs.form {w : World} {v : Value} {ats : List Cel} (h : PArgs w v ats) : ∃ a n c, v = .slice a n c := by
  rcases h with ⟨a, c, _, rfl⟩ | ⟨x, ga, c, T, y, _, rfl, _⟩ <;> exact ⟨_, _, _, rfl⟩
def PuPost (ats : List Cel) (b : Nat) (j : Int) (w W : World) (e : Ending) (w' : World) : Prop :=
  (∃ i, askJ ats j = some i ∧ e = .returned .nilIface ∧ Blk w' b 3 [.int .i64 i] ∧ Below w.heap.size w w') ∨ (askJ ats j = none ∧ ∃ q, e = .returned (.iface 185 (.pointer (some ⟨q, 0, none⟩))) ∧ Below w.heap.size w w')
theorem unpackPos_any (nm : ByteArray) (v : Value) (ats : List Cel) (w W : World) (b gv : Nat) (j : Int) (h : PArgs w v ats) (hb : Below w.heap.size w W) (hbl : w.heap.size ≤ b) (hgv : Blk W gv 20 [.iface 120 (.pointer (some ⟨b, 0, none⟩))]) (hbb : Blk W b 3 [.int .i64 j]) :
    Calls Tryz.prog 61 #[.string nm, v, .slice none 0 0, .int .i64 0, .slice (some ⟨gv, 0, none⟩) 1 1] W (PuPost ats b j w W) := by
  rcases h.below hb with ⟨a, c, rfl, rfl⟩ | ⟨x, ga, c, T, y, rfl, rfl, h3, h4, h5⟩
  · exact (unpackPos0_any nm a c gv W).mono (by rintro e w' ⟨rfl, rfl⟩; exact .inl ⟨j, rfl, rfl, hbb, hb⟩)
  · refine (unpackPos1_any nm ga 0 c gv b j T y x W h3 hgv hbb h4 h5).mono ?_
    rintro e w' (⟨i, h1, rfl, w1, hw1, rfl⟩ | ⟨h1, q, rfl, hb1⟩)
    · refine .inl ⟨i, h1, rfl, by simpa using (hbb.below hw1 hbb.lt).set 0 (.int .i64 i), (hb.trans (hw1.mono hb.size)).setCell (p := ⟨b, 0, none⟩) hbl _⟩
    · exact .inr ⟨h1, q, rfl, hb.trans (hb1.mono hb.size)⟩
theorem checkMutable_any (lb g cap : Nat) (xs : List Cel) (s : ByteArray) (w : World) (h : Lst w lb g cap xs) : Calls Tryz.prog 65 #[.pointer (some ⟨lb, 0, none⟩), .string s] w fun e w' => e = .returned .nilIface ∧ w = w' := by
  obtain ⟨c0, c1, c2, _, l0, _, _⟩ := h.cells
  clear h
  go_enter Tryz.func65, Tryz.ntmps65
  go_wp2_with fail
  go_ret
  exact ⟨rfl, rfl⟩
theorem outOfRange_any (i n : Int) (v : Value) (w : World) : Calls Tryz.prog 64 #[.int .i64 i, .int .i64 n, v] w (ErrPost w) := by
  by_cases hn : n = 0
  · subst hn
    go_enter Tryz.func64, Tryz.ntmps64
    go_wp2_with fail
    refine (errNew_any _ _).mono ?_
    rintro e w1 ⟨b, rfl, hb1⟩
    have HB1 := Lib.hid hb1
    clear hb1
    go_wp2_with fail
    go_ret
    exact ⟨_, rfl, HB1.out⟩
  · have d : decide (n = 0) = false := by simpa using hn
    have d2 : (n == 0) = false := by simpa using hn
    go_enter Tryz.func64, Tryz.ntmps64
    go_wp2_with fail
    refine (errNew_any _ _).mono ?_
    rintro e w1 ⟨b, rfl, hb1⟩
    have HB1 := Lib.hid hb1
    clear hb1
    go_wp2_with fail
    go_ret
    exact ⟨_, rfl, HB1.out⟩
theorem nameErrP_any (b : Nat) (v : Value) (w : World) : Calls Tryz.prog 63 #[.pointer (some ⟨b, 0, none⟩), v] w (ErrPost w) := by
  go_enter Tryz.func63, Tryz.ntmps63
  go_wp2_with fail
  refine (errNew_any _ _).mono ?_
  rintro e w1 ⟨b, rfl, hb1⟩
  have HB1 := Lib.hid hb1
  clear hb1
  go_wp2_with fail
  go_ret
  exact ⟨_, rfl, HB1.out⟩
theorem assertListOk (p : Option Addr) (w : World) : (Instr.typeAssert (.iface 40 (.pointer p)) 47 40 false).run Tryz.prog w = .ok (.pointer p) w := by kernel_rfl

/-- what list_pop leaves: the element, and the list without it; or an error; H: nothing below it has turned -/
def PpPost (xs ats : List Cel) (lb g H : Nat) (w : World) (e : Ending) (w' : World) : Prop :=
  Below H w w' ∧ ((∃ k x T y, popAt ats xs.length = some k ∧ xs[k]? = some x ∧ e = .returned (.tuple #[.iface T y, .nilIface]) ∧ SC w' w'.heap.size (.iface T y) x ∧ Lst w' lb g xs.length (xs.eraseIdx k)) ∨
    (popAt ats xs.length = none ∧ ∃ q, e = .returned (.tuple #[.nilIface, .iface 185 (.pointer (some ⟨q, 0, none⟩))])))
end Go.Proofs.YtggpaejlmfppoaaGreat
