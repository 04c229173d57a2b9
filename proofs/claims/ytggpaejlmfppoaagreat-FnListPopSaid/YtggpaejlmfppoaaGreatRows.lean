/-
  NARROWER THAN 'FOR EVERY INPUT', by the rows' own cells (each row's printed sentence says how): FnListPop: loops · FnAllOf: loops.
  DERIVED. THE GIVEN ROWS OF THIS SEAT. 2 by the template 'for every input the law returns true; each argument reads behind the call as it read before'; 0 by the template 'total and deterministic' (their statements: YtggpaejlmfppoaaGreatTotals.lean).
  GIVEN WITH THE SEED: the statements are not yours to turn. If you find one false, say at which input.
  Laid BY PROGRAM, IN A SANDBOX (cutbox-rows.mjs): the forced cells as the released guide's own fill.sh prints them over the translation 5bd0ed7753833cc8… (all of the seat's roots in one cut). By AI agents, Wed Nov 11 2026. No macro, syntax, notation, axiom, sorry.
-/
import Derived.Test.YtggpaejlmfppoaaGreatChecked
import GoSem.Claim
import GoSem.ClaimJoined
import GoSem.ClaimMapViews
import Derived.JoinedTies
import Derived.KernelRfl
namespace Go.Proofs.YtggpaejlmfppoaaGreat
/- THE CELL 'sum', in the pinned program and in every row, IS THE sha256 OF THE DUMP (.gsa) THAT YtggpaejlmfppoaaGreatProg.lean LOADS. Nothing in Lean hashes anything: it is a label: what it is worth is what the hold of that sum in a sandbox is worth. -/
noncomputable def Tryz.pinned : Pinned := { name := "ytggpaejlmfppoaagreat", sum := "5bd0ed7753833cc814522265288cfa05b0f17be1c97f4fdf81557adfe0e9e6be", checked := Tryz.checked }
namespace Rows
def none {H : Type} : Left H := { results := [], args := [] }

/-- 'laws.FnListPop': WHATEVER THE INPUT: true; the input reads as it did. -/
def fnListPopSpec : ChangeSpec := { name := "fnListPop", fn := fun _ => fun
  | [d1, d2] => { results := [.lit (.bool true)], args := [d1, d2] }
  | _ => none }
def fnListPopRow : OpenClaim := { program := "ytggpaejlmfppoaagreat", sum := "5bd0ed7753833cc814522265288cfa05b0f17be1c97f4fdf81557adfe0e9e6be", func := "given.example/pub-larkspur/laws.FnListPop", spec := "fnListPop", inPlace := ["math.Float64frombits", "math.Float64bits"], unfollowed := true, recurses := true, loops := true, apart := false }
def FnListPopSaid : Prop := fnListPopRow.holds Tryz.pinned (OpenSpec.ofChange fnListPopSpec)

/-- ITS FALSE NEIGHBOUR: 'it returns false'. Refute it at one input. -/
def fnListPopWrong : ChangeSpec := { name := "fnListPop", fn := fun _ => fun
  | [d1, d2] => { results := [.lit (.bool false)], args := [d1, d2] }
  | _ => none }
def FnListPopWrongFalsely : Prop := fnListPopRow.holds Tryz.pinned (OpenSpec.ofChange fnListPopWrong)

/-- 'laws.FnAllOf': WHATEVER THE INPUT: true; the input reads as it did. -/
def fnAllOfSpec : ChangeSpec := { name := "fnAllOf", fn := fun _ => fun
  | [d] => { results := [.lit (.bool true)], args := [d] }
  | _ => none }
def fnAllOfRow : OpenClaim := { program := "ytggpaejlmfppoaagreat", sum := "5bd0ed7753833cc814522265288cfa05b0f17be1c97f4fdf81557adfe0e9e6be", func := "given.example/pub-larkspur/laws.FnAllOf", spec := "fnAllOf", inPlace := ["math.Float64frombits", "math.Float64bits"], unfollowed := true, recurses := true, loops := true, apart := false }
def FnAllOfSaid : Prop := fnAllOfRow.holds Tryz.pinned (OpenSpec.ofChange fnAllOfSpec)

/-- ITS FALSE NEIGHBOUR: 'it returns false'. Refute it at one input. -/
def fnAllOfWrong : ChangeSpec := { name := "fnAllOf", fn := fun _ => fun
  | [d] => { results := [.lit (.bool false)], args := [d] }
  | _ => none }
def FnAllOfWrongFalsely : Prop := fnAllOfRow.holds Tryz.pinned (OpenSpec.ofChange fnAllOfWrong)

/- THE SECOND FORM. 'bulk': how many values and letters a reading holds, each counted each time it is reached (what is shared counts as often as it is met; a slice's spare places count too). A statement '..UptoSaid' is the law's where the arguments, and the package variables that the reading takes, are together of bulk at most 1048576: NARROWER than '..Said'. Prove '..Said' where nothing that the law and all that it calls make is longer than what came in: it says more and counts as full. Else prove '..UptoSaid'. A law counts once. -/
mutual
def uptoBulk {H : Type} : DataW H → Nat
  | .lit (.string bytes) => bytes.length + 1
  | .lit _ => 1
  | .nil => 1
  | .ptr d => uptoBulk d + 1
  | .slice elems spare => uptoBulkAll elems + uptoBulkAll spare + 1
  | .agg parts => uptoBulkAll parts + 1
  | .iface _ d => uptoBulk d + 1
  | .map entries => uptoBulkEntries entries + 1
  | .held _ => 1
def uptoBulkAll {H : Type} : List (DataW H) → Nat
  | [] => 0
  | d :: r => uptoBulk d + uptoBulkAll r
def uptoBulkEntries {H : Type} : List (Lit × DataW H) → Nat
  | [] => 0
  | x :: r => uptoBulkEntry x + uptoBulkEntries r
def uptoBulkEntry {H : Type} : Lit × DataW H → Nat
  | (.string bytes, d) => bytes.length + uptoBulk d + 1
  | (_, d) => uptoBulk d + 1
 end
def uptoSmall : (H : Type) → List (DataW H) → Bool := fun _ ds => decide (uptoBulkAll ds ≤ 1048576)
def OpenSpec.upto (s : _root_.Go.ChangeSpec) : _root_.Go.OpenSpec := { _root_.Go.OpenSpec.ofChange s with cond := some uptoSmall }

/-- 'laws.FnListPop', WHERE WHAT IT READS IS OF BULK AT MOST 1048576: true; the input reads as it did. -/
def fnListPopUptoRow : OpenClaim := { program := "ytggpaejlmfppoaagreat", sum := "5bd0ed7753833cc814522265288cfa05b0f17be1c97f4fdf81557adfe0e9e6be", func := "given.example/pub-larkspur/laws.FnListPop", spec := "fnListPop", inPlace := ["math.Float64frombits", "math.Float64bits"], unfollowed := true, recurses := true, loops := true, apart := false, narrowed := true }
def FnListPopUptoSaid : Prop := fnListPopUptoRow.holds Tryz.pinned (OpenSpec.upto fnListPopSpec)

/-- 'laws.FnAllOf', WHERE WHAT IT READS IS OF BULK AT MOST 1048576: true; the input reads as it did. -/
def fnAllOfUptoRow : OpenClaim := { program := "ytggpaejlmfppoaagreat", sum := "5bd0ed7753833cc814522265288cfa05b0f17be1c97f4fdf81557adfe0e9e6be", func := "given.example/pub-larkspur/laws.FnAllOf", spec := "fnAllOf", inPlace := ["math.Float64frombits", "math.Float64bits"], unfollowed := true, recurses := true, loops := true, apart := false, narrowed := true }
def FnAllOfUptoSaid : Prop := fnAllOfUptoRow.holds Tryz.pinned (OpenSpec.upto fnAllOfSpec)

end Rows
end Go.Proofs.YtggpaejlmfppoaaGreat
