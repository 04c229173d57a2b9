/-
  No cell of these rows narrows 'for every input' (looked for: loops, veiled, ifaces, maps, wideKeys, modest, calm, conditions, laid).
  DERIVED. THE GIVEN ROWS OF THIS SEAT. 3 by the template 'for every input the law returns true; each argument reads behind the call as it read before'; 0 by the template 'total and deterministic' (their statements: YtkjijonndikaeaaTotals.lean).
  GIVEN WITH THE SEED: the statements are not yours to turn. If you find one false, say at which input.
  Laid BY PROGRAM, IN A SANDBOX (cutbox-rows.mjs): the forced cells as the released guide's own fill.sh prints them over the translation d8d3fcd3e15201a7… (all of the seat's roots in one cut). By AI agents, Wed Nov 11 2026. No macro, syntax, notation, axiom, sorry.
-/
import Derived.Test.YtkjijonndikaeaaChecked
import GoSem.Claim
import GoSem.ClaimJoined
import GoSem.ClaimMapViews
import Derived.JoinedTies
import Derived.KernelRfl
namespace Go.Proofs.Ytkjijonndikaeaa
/- THE CELL 'sum', in the pinned program and in every row, IS THE sha256 OF THE DUMP (.gsa) THAT YtkjijonndikaeaaProg.lean LOADS. Nothing in Lean hashes anything: it is a label: what it is worth is what the hold of that sum in a sandbox is worth. -/
noncomputable def Try.pinned : Pinned := { name := "ytkjijonndikaeaa", sum := "d8d3fcd3e15201a7b97a92bf8d229e3073382e5b32f4d4605e2166ffe6312370", checked := Try.checked }
namespace Rows
def none {H : Type} : Left H := { results := [], args := [] }

/-- 'laws.FnIntCmp': WHATEVER THE INPUT: true; the input reads as it did. -/
def fnIntCmpSpec : ChangeSpec := { name := "fnIntCmp", fn := fun _ => fun
  | [d1, d2, d3, d4] => { results := [.lit (.bool true)], args := [d1, d2, d3, d4] }
  | _ => none }
def fnIntCmpRow : OpenClaim := { program := "ytkjijonndikaeaa", sum := "d8d3fcd3e15201a7b97a92bf8d229e3073382e5b32f4d4605e2166ffe6312370", func := "given.example/pub-larkspur/laws.FnIntCmp", spec := "fnIntCmp", apart := false }
def FnIntCmpSaid : Prop := fnIntCmpRow.holds Try.pinned (OpenSpec.ofChange fnIntCmpSpec)

/-- ITS FALSE NEIGHBOUR: 'it returns false'. Refute it at one input. -/
def fnIntCmpWrong : ChangeSpec := { name := "fnIntCmp", fn := fun _ => fun
  | [d1, d2, d3, d4] => { results := [.lit (.bool false)], args := [d1, d2, d3, d4] }
  | _ => none }
def FnIntCmpWrongFalsely : Prop := fnIntCmpRow.holds Try.pinned (OpenSpec.ofChange fnIntCmpWrong)

/-- 'laws.FnIntAdd': WHATEVER THE INPUT: true; the input reads as it did. -/
def fnIntAddSpec : ChangeSpec := { name := "fnIntAdd", fn := fun _ => fun
  | [d1, d2, d3, d4] => { results := [.lit (.bool true)], args := [d1, d2, d3, d4] }
  | _ => none }
def fnIntAddRow : OpenClaim := { program := "ytkjijonndikaeaa", sum := "d8d3fcd3e15201a7b97a92bf8d229e3073382e5b32f4d4605e2166ffe6312370", func := "given.example/pub-larkspur/laws.FnIntAdd", spec := "fnIntAdd", inPlace := ["math/bits.Add64", "math/bits.Sub64"], recurses := true, apart := false }
def FnIntAddSaid : Prop := fnIntAddRow.holds Try.pinned (OpenSpec.ofChange fnIntAddSpec)

/-- ITS FALSE NEIGHBOUR: 'it returns false'. Refute it at one input. -/
def fnIntAddWrong : ChangeSpec := { name := "fnIntAdd", fn := fun _ => fun
  | [d1, d2, d3, d4] => { results := [.lit (.bool false)], args := [d1, d2, d3, d4] }
  | _ => none }
def FnIntAddWrongFalsely : Prop := fnIntAddRow.holds Try.pinned (OpenSpec.ofChange fnIntAddWrong)

/-- 'laws.FnIntBits': WHATEVER THE INPUT: true; the input reads as it did. -/
def fnIntBitsSpec : ChangeSpec := { name := "fnIntBits", fn := fun _ => fun
  | [d1, d2, d3, d4] => { results := [.lit (.bool true)], args := [d1, d2, d3, d4] }
  | _ => none }
def fnIntBitsRow : OpenClaim := { program := "ytkjijonndikaeaa", sum := "d8d3fcd3e15201a7b97a92bf8d229e3073382e5b32f4d4605e2166ffe6312370", func := "given.example/pub-larkspur/laws.FnIntBits", spec := "fnIntBits", inPlace := ["math/bits.Sub64", "math/bits.Add64"], recurses := true, apart := false }
def FnIntBitsSaid : Prop := fnIntBitsRow.holds Try.pinned (OpenSpec.ofChange fnIntBitsSpec)

/-- ITS FALSE NEIGHBOUR: 'it returns false'. Refute it at one input. -/
def fnIntBitsWrong : ChangeSpec := { name := "fnIntBits", fn := fun _ => fun
  | [d1, d2, d3, d4] => { results := [.lit (.bool false)], args := [d1, d2, d3, d4] }
  | _ => none }
def FnIntBitsWrongFalsely : Prop := fnIntBitsRow.holds Try.pinned (OpenSpec.ofChange fnIntBitsWrong)

/- THE SECOND FORM. 'bulk': how many values and letters a reading holds, each counted each time it is reached (what is shared counts as often as it is met; a slice's spare places count too). A statement '..UptoSaid' is the law's where the arguments, and the package variables that the reading takes, are together of bulk at most 1048576: NARROWER than '..Said'. Prove '..Said' where nothing that the law and all that it calls make is longer than what came in: it says more and counts as full. Else prove '..UptoSaid'. A law counts once. -/
mutual
def uptoBulk {H : Type} : DataW H → Nat
  | .lit (.string bytes) => bytes.length + 1
  | .lit _ => 1
  | .nil => 1
  | .ptr d => uptoBulk d + 1
  | .slice elems spare => uptoBulkAll elems + uptoBulkAll spare + 1
  | .agg parts => uptoBulkAll parts + 1
  | .iface _ d => uptoBulk d + 1
  | .map entries => uptoBulkEntries entries + 1
  | .held _ => 1
def uptoBulkAll {H : Type} : List (DataW H) → Nat
  | [] => 0
  | d :: r => uptoBulk d + uptoBulkAll r
def uptoBulkEntries {H : Type} : List (Lit × DataW H) → Nat
  | [] => 0
  | x :: r => uptoBulkEntry x + uptoBulkEntries r
def uptoBulkEntry {H : Type} : Lit × DataW H → Nat
  | (.string bytes, d) => bytes.length + uptoBulk d + 1
  | (_, d) => uptoBulk d + 1
 end
def uptoSmall : (H : Type) → List (DataW H) → Bool := fun _ ds => decide (uptoBulkAll ds ≤ 1048576)
def OpenSpec.upto (s : _root_.Go.ChangeSpec) : _root_.Go.OpenSpec := { _root_.Go.OpenSpec.ofChange s with cond := some uptoSmall }

/-- 'laws.FnIntCmp', WHERE WHAT IT READS IS OF BULK AT MOST 1048576: true; the input reads as it did. -/
def fnIntCmpUptoRow : OpenClaim := { program := "ytkjijonndikaeaa", sum := "d8d3fcd3e15201a7b97a92bf8d229e3073382e5b32f4d4605e2166ffe6312370", func := "given.example/pub-larkspur/laws.FnIntCmp", spec := "fnIntCmp", apart := false, narrowed := true }
def FnIntCmpUptoSaid : Prop := fnIntCmpUptoRow.holds Try.pinned (OpenSpec.upto fnIntCmpSpec)

/-- 'laws.FnIntAdd', WHERE WHAT IT READS IS OF BULK AT MOST 1048576: true; the input reads as it did. -/
def fnIntAddUptoRow : OpenClaim := { program := "ytkjijonndikaeaa", sum := "d8d3fcd3e15201a7b97a92bf8d229e3073382e5b32f4d4605e2166ffe6312370", func := "given.example/pub-larkspur/laws.FnIntAdd", spec := "fnIntAdd", inPlace := ["math/bits.Add64", "math/bits.Sub64"], recurses := true, apart := false, narrowed := true }
def FnIntAddUptoSaid : Prop := fnIntAddUptoRow.holds Try.pinned (OpenSpec.upto fnIntAddSpec)

/-- 'laws.FnIntBits', WHERE WHAT IT READS IS OF BULK AT MOST 1048576: true; the input reads as it did. -/
def fnIntBitsUptoRow : OpenClaim := { program := "ytkjijonndikaeaa", sum := "d8d3fcd3e15201a7b97a92bf8d229e3073382e5b32f4d4605e2166ffe6312370", func := "given.example/pub-larkspur/laws.FnIntBits", spec := "fnIntBits", inPlace := ["math/bits.Sub64", "math/bits.Add64"], recurses := true, apart := false, narrowed := true }
def FnIntBitsUptoSaid : Prop := fnIntBitsUptoRow.holds Try.pinned (OpenSpec.upto fnIntBitsSpec)

end Rows
end Go.Proofs.Ytkjijonndikaeaa
