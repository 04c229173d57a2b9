/-
  No cell of these rows narrows 'for every input' (looked for: loops, veiled, ifaces, maps, wideKeys, modest, calm, conditions, laid).
  DERIVED. THE GIVEN ROWS OF THIS SEAT. 3 by the template 'for every input the law returns true; each argument reads behind the call as it read before'; 0 by the template 'total and deterministic' (their statements: YtglpnkjhehbenaaTotals.lean).
  GIVEN WITH THE SEED: the statements are not yours to turn. If you find one false, say at which input.
  Laid BY PROGRAM, IN A SANDBOX (cutbox-rows.mjs): the forced cells as the released guide's own fill.sh prints them over the translation 80164e58c7ecdee2… (all of the seat's roots in one cut). By AI agents, Wed Nov 11 2026. No macro, syntax, notation, axiom, sorry.
-/
import Derived.Test.YtglpnkjhehbenaaChecked
import GoSem.Claim
import GoSem.ClaimJoined
import GoSem.ClaimMapViews
import Derived.JoinedTies
import Derived.KernelRfl
namespace Go.Proofs.Ytglpnkjhehbenaa
/- THE CELL 'sum', in the pinned program and in every row, IS THE sha256 OF THE DUMP (.gsa) THAT YtglpnkjhehbenaaProg.lean LOADS. Nothing in Lean hashes anything: it is a label: what it is worth is what the hold of that sum in a sandbox is worth. -/
noncomputable def Try.pinned : Pinned := { name := "ytglpnkjhehbenaa", sum := "80164e58c7ecdee240e18d9cfd2f70f0c20a622600da7d5c9fab3589cc411156", checked := Try.checked }
namespace Rows
def none {H : Type} : Left H := { results := [], args := [] }

/-- 'laws.FnFloatEqual': WHATEVER THE INPUT: true; the input reads as it did. -/
def fnFloatEqualSpec : ChangeSpec := { name := "fnFloatEqual", fn := fun _ => fun
  | [d1, d2] => { results := [.lit (.bool true)], args := [d1, d2] }
  | _ => none }
def fnFloatEqualRow : OpenClaim := { program := "ytglpnkjhehbenaa", sum := "80164e58c7ecdee240e18d9cfd2f70f0c20a622600da7d5c9fab3589cc411156", func := "given.example/pub-larkspur/laws.FnFloatEqual", spec := "fnFloatEqual", inPlace := ["math.Float64frombits"], apart := false }
def FnFloatEqualSaid : Prop := fnFloatEqualRow.holds Try.pinned (OpenSpec.ofChange fnFloatEqualSpec)

/-- ITS FALSE NEIGHBOUR: 'it returns false'. Refute it at one input. -/
def fnFloatEqualWrong : ChangeSpec := { name := "fnFloatEqual", fn := fun _ => fun
  | [d1, d2] => { results := [.lit (.bool false)], args := [d1, d2] }
  | _ => none }
def FnFloatEqualWrongFalsely : Prop := fnFloatEqualRow.holds Try.pinned (OpenSpec.ofChange fnFloatEqualWrong)

/-- 'laws.FnStringCompare': WHATEVER THE INPUT: true; the input reads as it did. -/
def fnStringCompareSpec : ChangeSpec := { name := "fnStringCompare", fn := fun _ => fun
  | [d1, d2, d3] => { results := [.lit (.bool true)], args := [d1, d2, d3] }
  | _ => none }
def fnStringCompareRow : OpenClaim := { program := "ytglpnkjhehbenaa", sum := "80164e58c7ecdee240e18d9cfd2f70f0c20a622600da7d5c9fab3589cc411156", func := "given.example/pub-larkspur/laws.FnStringCompare", spec := "fnStringCompare", inPlace := ["internal/bytealg.abigen_runtime_cmpstring", "math.Float64frombits", "math.Float64bits"], recurses := true, apart := false }
def FnStringCompareSaid : Prop := fnStringCompareRow.holds Try.pinned (OpenSpec.ofChange fnStringCompareSpec)

/-- ITS FALSE NEIGHBOUR: 'it returns false'. Refute it at one input. -/
def fnStringCompareWrong : ChangeSpec := { name := "fnStringCompare", fn := fun _ => fun
  | [d1, d2, d3] => { results := [.lit (.bool false)], args := [d1, d2, d3] }
  | _ => none }
def FnStringCompareWrongFalsely : Prop := fnStringCompareRow.holds Try.pinned (OpenSpec.ofChange fnStringCompareWrong)

/-- 'laws.FnIntOf64': WHATEVER THE INPUT: true; the input reads as it did. -/
def fnIntOf64Spec : ChangeSpec := { name := "fnIntOf64", fn := fun _ => fun
  | [d] => { results := [.lit (.bool true)], args := [d] }
  | _ => none }
def fnIntOf64Row : OpenClaim := { program := "ytglpnkjhehbenaa", sum := "80164e58c7ecdee240e18d9cfd2f70f0c20a622600da7d5c9fab3589cc411156", func := "given.example/pub-larkspur/laws.FnIntOf64", spec := "fnIntOf64", apart := false }
def FnIntOf64Said : Prop := fnIntOf64Row.holds Try.pinned (OpenSpec.ofChange fnIntOf64Spec)

/-- ITS FALSE NEIGHBOUR: 'it returns false'. Refute it at one input. -/
def fnIntOf64Wrong : ChangeSpec := { name := "fnIntOf64", fn := fun _ => fun
  | [d] => { results := [.lit (.bool false)], args := [d] }
  | _ => none }
def FnIntOf64WrongFalsely : Prop := fnIntOf64Row.holds Try.pinned (OpenSpec.ofChange fnIntOf64Wrong)

/- THE SECOND FORM. 'bulk': how many values and letters a reading holds, each counted each time it is reached (what is shared counts as often as it is met; a slice's spare places count too). A statement '..UptoSaid' is the law's where the arguments, and the package variables that the reading takes, are together of bulk at most 1048576: NARROWER than '..Said'. Prove '..Said' where nothing that the law and all that it calls make is longer than what came in: it says more and counts as full. Else prove '..UptoSaid'. A law counts once. -/
mutual
def uptoBulk {H : Type} : DataW H → Nat
  | .lit (.string bytes) => bytes.length + 1
  | .lit _ => 1
  | .nil => 1
  | .ptr d => uptoBulk d + 1
  | .slice elems spare => uptoBulkAll elems + uptoBulkAll spare + 1
  | .agg parts => uptoBulkAll parts + 1
  | .iface _ d => uptoBulk d + 1
  | .map entries => uptoBulkEntries entries + 1
  | .held _ => 1
def uptoBulkAll {H : Type} : List (DataW H) → Nat
  | [] => 0
  | d :: r => uptoBulk d + uptoBulkAll r
def uptoBulkEntries {H : Type} : List (Lit × DataW H) → Nat
  | [] => 0
  | x :: r => uptoBulkEntry x + uptoBulkEntries r
def uptoBulkEntry {H : Type} : Lit × DataW H → Nat
  | (.string bytes, d) => bytes.length + uptoBulk d + 1
  | (_, d) => uptoBulk d + 1
 end
def uptoSmall : (H : Type) → List (DataW H) → Bool := fun _ ds => decide (uptoBulkAll ds ≤ 1048576)
def OpenSpec.upto (s : _root_.Go.ChangeSpec) : _root_.Go.OpenSpec := { _root_.Go.OpenSpec.ofChange s with cond := some uptoSmall }

/-- 'laws.FnFloatEqual', WHERE WHAT IT READS IS OF BULK AT MOST 1048576: true; the input reads as it did. -/
def fnFloatEqualUptoRow : OpenClaim := { program := "ytglpnkjhehbenaa", sum := "80164e58c7ecdee240e18d9cfd2f70f0c20a622600da7d5c9fab3589cc411156", func := "given.example/pub-larkspur/laws.FnFloatEqual", spec := "fnFloatEqual", inPlace := ["math.Float64frombits"], apart := false, narrowed := true }
def FnFloatEqualUptoSaid : Prop := fnFloatEqualUptoRow.holds Try.pinned (OpenSpec.upto fnFloatEqualSpec)

/-- 'laws.FnStringCompare', WHERE WHAT IT READS IS OF BULK AT MOST 1048576: true; the input reads as it did. -/
def fnStringCompareUptoRow : OpenClaim := { program := "ytglpnkjhehbenaa", sum := "80164e58c7ecdee240e18d9cfd2f70f0c20a622600da7d5c9fab3589cc411156", func := "given.example/pub-larkspur/laws.FnStringCompare", spec := "fnStringCompare", inPlace := ["internal/bytealg.abigen_runtime_cmpstring", "math.Float64frombits", "math.Float64bits"], recurses := true, apart := false, narrowed := true }
def FnStringCompareUptoSaid : Prop := fnStringCompareUptoRow.holds Try.pinned (OpenSpec.upto fnStringCompareSpec)

/-- 'laws.FnIntOf64', WHERE WHAT IT READS IS OF BULK AT MOST 1048576: true; the input reads as it did. -/
def fnIntOf64UptoRow : OpenClaim := { program := "ytglpnkjhehbenaa", sum := "80164e58c7ecdee240e18d9cfd2f70f0c20a622600da7d5c9fab3589cc411156", func := "given.example/pub-larkspur/laws.FnIntOf64", spec := "fnIntOf64", apart := false, narrowed := true }
def FnIntOf64UptoSaid : Prop := fnIntOf64UptoRow.holds Try.pinned (OpenSpec.upto fnIntOf64Spec)

end Rows
end Go.Proofs.Ytglpnkjhehbenaa
