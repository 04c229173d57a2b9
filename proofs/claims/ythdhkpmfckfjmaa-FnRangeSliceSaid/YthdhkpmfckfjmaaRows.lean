/-
  No cell of these rows narrows 'for every input' (looked for: loops, veiled, ifaces, maps, wideKeys, modest, calm, conditions, laid).
  DERIVED. THE GIVEN ROWS OF THIS SEAT. 3 by the template 'for every input the law returns true; each argument reads behind the call as it read before'; 0 by the template 'total and deterministic' (their statements: YthdhkpmfckfjmaaTotals.lean).
  GIVEN WITH THE SEED: the statements are not yours to turn. If you find one false, say at which input.
  Laid BY PROGRAM, IN A SANDBOX (cutbox-rows.mjs): the forced cells as the released guide's own fill.sh prints them over the translation 5c32ecedd88fb7e9… (all of the seat's roots in one cut). By AI agents, Wed Nov 11 2026. No macro, syntax, notation, axiom, sorry.
-/
import Derived.Test.YthdhkpmfckfjmaaChecked
import GoSem.Claim
import GoSem.ClaimJoined
import GoSem.ClaimMapViews
import Derived.JoinedTies
import Derived.KernelRfl
namespace Go.Proofs.Ythdhkpmfckfjmaa
/- THE CELL 'sum', in the pinned program and in every row, IS THE sha256 OF THE DUMP (.gsa) THAT YthdhkpmfckfjmaaProg.lean LOADS. Nothing in Lean hashes anything: it is a label: what it is worth is what the hold of that sum in a sandbox is worth. -/
noncomputable def Try.pinned : Pinned := { name := "ythdhkpmfckfjmaa", sum := "5c32ecedd88fb7e9d0a5fee83a55646a5dcf175086759477f793b474e7749ff8", checked := Try.checked }
namespace Rows
def none {H : Type} : Left H := { results := [], args := [] }

/-- 'laws.FnBytesLen': WHATEVER THE INPUT: true; the input reads as it did. -/
def fnBytesLenSpec : ChangeSpec := { name := "fnBytesLen", fn := fun _ => fun
  | [d] => { results := [.lit (.bool true)], args := [d] }
  | _ => none }
def fnBytesLenRow : OpenClaim := { program := "ythdhkpmfckfjmaa", sum := "5c32ecedd88fb7e9d0a5fee83a55646a5dcf175086759477f793b474e7749ff8", func := "given.example/pub-larkspur/laws.FnBytesLen", spec := "fnBytesLen", apart := false }
def FnBytesLenSaid : Prop := fnBytesLenRow.holds Try.pinned (OpenSpec.ofChange fnBytesLenSpec)

/-- ITS FALSE NEIGHBOUR: 'it returns false'. Refute it at one input. -/
def fnBytesLenWrong : ChangeSpec := { name := "fnBytesLen", fn := fun _ => fun
  | [d] => { results := [.lit (.bool false)], args := [d] }
  | _ => none }
def FnBytesLenWrongFalsely : Prop := fnBytesLenRow.holds Try.pinned (OpenSpec.ofChange fnBytesLenWrong)

/-- 'laws.FnBoolHash': WHATEVER THE INPUT: true; the input reads as it did. -/
def fnBoolHashSpec : ChangeSpec := { name := "fnBoolHash", fn := fun _ => fun
  | [d] => { results := [.lit (.bool true)], args := [d] }
  | _ => none }
def fnBoolHashRow : OpenClaim := { program := "ythdhkpmfckfjmaa", sum := "5c32ecedd88fb7e9d0a5fee83a55646a5dcf175086759477f793b474e7749ff8", func := "given.example/pub-larkspur/laws.FnBoolHash", spec := "fnBoolHash", apart := false }
def FnBoolHashSaid : Prop := fnBoolHashRow.holds Try.pinned (OpenSpec.ofChange fnBoolHashSpec)

/-- ITS FALSE NEIGHBOUR: 'it returns false'. Refute it at one input. -/
def fnBoolHashWrong : ChangeSpec := { name := "fnBoolHash", fn := fun _ => fun
  | [d] => { results := [.lit (.bool false)], args := [d] }
  | _ => none }
def FnBoolHashWrongFalsely : Prop := fnBoolHashRow.holds Try.pinned (OpenSpec.ofChange fnBoolHashWrong)

/-- 'laws.FnRangeSlice': WHATEVER THE INPUT: true; the input reads as it did. -/
def fnRangeSliceSpec : ChangeSpec := { name := "fnRangeSlice", fn := fun _ => fun
  | [d1, d2, d3, d4, d5, d6] => { results := [.lit (.bool true)], args := [d1, d2, d3, d4, d5, d6] }
  | _ => none }
def fnRangeSliceRow : OpenClaim := { program := "ythdhkpmfckfjmaa", sum := "5c32ecedd88fb7e9d0a5fee83a55646a5dcf175086759477f793b474e7749ff8", func := "given.example/pub-larkspur/laws.FnRangeSlice", spec := "fnRangeSlice", apart := false }
def FnRangeSliceSaid : Prop := fnRangeSliceRow.holds Try.pinned (OpenSpec.ofChange fnRangeSliceSpec)

/-- ITS FALSE NEIGHBOUR: 'it returns false'. Refute it at one input. -/
def fnRangeSliceWrong : ChangeSpec := { name := "fnRangeSlice", fn := fun _ => fun
  | [d1, d2, d3, d4, d5, d6] => { results := [.lit (.bool false)], args := [d1, d2, d3, d4, d5, d6] }
  | _ => none }
def FnRangeSliceWrongFalsely : Prop := fnRangeSliceRow.holds Try.pinned (OpenSpec.ofChange fnRangeSliceWrong)

/- THE SECOND FORM. 'bulk': how many values and letters a reading holds, each counted each time it is reached (what is shared counts as often as it is met; a slice's spare places count too). A statement '..UptoSaid' is the law's where the arguments, and the package variables that the reading takes, are together of bulk at most 1048576: NARROWER than '..Said'. Prove '..Said' where nothing that the law and all that it calls make is longer than what came in: it says more and counts as full. Else prove '..UptoSaid'. A law counts once. -/
mutual
def uptoBulk {H : Type} : DataW H → Nat
  | .lit (.string bytes) => bytes.length + 1
  | .lit _ => 1
  | .nil => 1
  | .ptr d => uptoBulk d + 1
  | .slice elems spare => uptoBulkAll elems + uptoBulkAll spare + 1
  | .agg parts => uptoBulkAll parts + 1
  | .iface _ d => uptoBulk d + 1
  | .map entries => uptoBulkEntries entries + 1
  | .held _ => 1
def uptoBulkAll {H : Type} : List (DataW H) → Nat
  | [] => 0
  | d :: r => uptoBulk d + uptoBulkAll r
def uptoBulkEntries {H : Type} : List (Lit × DataW H) → Nat
  | [] => 0
  | x :: r => uptoBulkEntry x + uptoBulkEntries r
def uptoBulkEntry {H : Type} : Lit × DataW H → Nat
  | (.string bytes, d) => bytes.length + uptoBulk d + 1
  | (_, d) => uptoBulk d + 1
 end
def uptoSmall : (H : Type) → List (DataW H) → Bool := fun _ ds => decide (uptoBulkAll ds ≤ 1048576)
def OpenSpec.upto (s : _root_.Go.ChangeSpec) : _root_.Go.OpenSpec := { _root_.Go.OpenSpec.ofChange s with cond := some uptoSmall }

/-- 'laws.FnBytesLen', WHERE WHAT IT READS IS OF BULK AT MOST 1048576: true; the input reads as it did. -/
def fnBytesLenUptoRow : OpenClaim := { program := "ythdhkpmfckfjmaa", sum := "5c32ecedd88fb7e9d0a5fee83a55646a5dcf175086759477f793b474e7749ff8", func := "given.example/pub-larkspur/laws.FnBytesLen", spec := "fnBytesLen", apart := false, narrowed := true }
def FnBytesLenUptoSaid : Prop := fnBytesLenUptoRow.holds Try.pinned (OpenSpec.upto fnBytesLenSpec)

/-- 'laws.FnBoolHash', WHERE WHAT IT READS IS OF BULK AT MOST 1048576: true; the input reads as it did. -/
def fnBoolHashUptoRow : OpenClaim := { program := "ythdhkpmfckfjmaa", sum := "5c32ecedd88fb7e9d0a5fee83a55646a5dcf175086759477f793b474e7749ff8", func := "given.example/pub-larkspur/laws.FnBoolHash", spec := "fnBoolHash", apart := false, narrowed := true }
def FnBoolHashUptoSaid : Prop := fnBoolHashUptoRow.holds Try.pinned (OpenSpec.upto fnBoolHashSpec)

/-- 'laws.FnRangeSlice', WHERE WHAT IT READS IS OF BULK AT MOST 1048576: true; the input reads as it did. -/
def fnRangeSliceUptoRow : OpenClaim := { program := "ythdhkpmfckfjmaa", sum := "5c32ecedd88fb7e9d0a5fee83a55646a5dcf175086759477f793b474e7749ff8", func := "given.example/pub-larkspur/laws.FnRangeSlice", spec := "fnRangeSlice", apart := false, narrowed := true }
def FnRangeSliceUptoSaid : Prop := fnRangeSliceUptoRow.holds Try.pinned (OpenSpec.upto fnRangeSliceSpec)

end Rows
end Go.Proofs.Ythdhkpmfckfjmaa
