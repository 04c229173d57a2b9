/-
  No cell of these rows narrows 'for every input' (looked for: loops, veiled, ifaces, maps, wideKeys, modest, calm, conditions, laid).
  DERIVED. THE GIVEN ROWS OF THIS SEAT. 3 by the template 'for every input the law returns true; each argument reads behind the call as it read before'; 0 by the template 'total and deterministic' (their statements: YthnmkbdeoahiaaaTotals.lean).
  GIVEN WITH THE SEED: the statements are not yours to turn. If you find one false, say at which input.
  Laid BY PROGRAM, IN A SANDBOX (cutbox-rows.mjs): the forced cells as the released guide's own fill.sh prints them over the translation 892e349a8a4e9866… (all of the seat's roots in one cut). By AI agents, Wed Nov 11 2026. No macro, syntax, notation, axiom, sorry.
-/
import Derived.Test.YthnmkbdeoahiaaaChecked
import GoSem.Claim
import GoSem.ClaimJoined
import GoSem.ClaimMapViews
import Derived.JoinedTies
import Derived.KernelRfl
namespace Go.Proofs.Ythnmkbdeoahiaaa
/- THE CELL 'sum', in the pinned program and in every row, IS THE sha256 OF THE DUMP (.gsa) THAT YthnmkbdeoahiaaaProg.lean LOADS. Nothing in Lean hashes anything: it is a label: what it is worth is what the hold of that sum in a sandbox is worth. -/
noncomputable def Try.pinned : Pinned := { name := "ythnmkbdeoahiaaa", sum := "892e349a8a4e9866551cad18adc03fec915e55d54472d7c7bbc91e30d5ef5c80", checked := Try.checked }
namespace Rows
def none {H : Type} : Left H := { results := [], args := [] }

/-- 'laws.FnChr': WHATEVER THE INPUT: true; the input reads as it did. -/
def fnChrSpec : ChangeSpec := { name := "fnChr", fn := fun _ => fun
  | [d1, d2] => { results := [.lit (.bool true)], args := [d1, d2] }
  | _ => none }
def fnChrRow : OpenClaim := { program := "ythnmkbdeoahiaaa", sum := "892e349a8a4e9866551cad18adc03fec915e55d54472d7c7bbc91e30d5ef5c80", func := "given.example/pub-larkspur/laws.FnChr", spec := "fnChr", inPlace := ["math.Float64frombits"], apart := false }
def FnChrSaid : Prop := fnChrRow.holds Try.pinned (OpenSpec.ofChange fnChrSpec)

/-- ITS FALSE NEIGHBOUR: 'it returns false'. Refute it at one input. -/
def fnChrWrong : ChangeSpec := { name := "fnChr", fn := fun _ => fun
  | [d1, d2] => { results := [.lit (.bool false)], args := [d1, d2] }
  | _ => none }
def FnChrWrongFalsely : Prop := fnChrRow.holds Try.pinned (OpenSpec.ofChange fnChrWrong)

/-- 'laws.FnStringRepeat': WHATEVER THE INPUT: true; the input reads as it did. -/
def fnStringRepeatSpec : ChangeSpec := { name := "fnStringRepeat", fn := fun _ => fun
  | [d1, d2, d3] => { results := [.lit (.bool true)], args := [d1, d2, d3] }
  | _ => none }
def fnStringRepeatRow : OpenClaim := { program := "ythnmkbdeoahiaaa", sum := "892e349a8a4e9866551cad18adc03fec915e55d54472d7c7bbc91e30d5ef5c80", func := "given.example/pub-larkspur/laws.FnStringRepeat", spec := "fnStringRepeat", inPlace := ["internal/abi.NoEscape", "internal/bytealg.MakeNoZero"], apart := false }
def FnStringRepeatSaid : Prop := fnStringRepeatRow.holds Try.pinned (OpenSpec.ofChange fnStringRepeatSpec)

/-- ITS FALSE NEIGHBOUR: 'it returns false'. Refute it at one input. -/
def fnStringRepeatWrong : ChangeSpec := { name := "fnStringRepeat", fn := fun _ => fun
  | [d1, d2, d3] => { results := [.lit (.bool false)], args := [d1, d2, d3] }
  | _ => none }
def FnStringRepeatWrongFalsely : Prop := fnStringRepeatRow.holds Try.pinned (OpenSpec.ofChange fnStringRepeatWrong)

/-- 'laws.FnIntBits': WHATEVER THE INPUT: true; the input reads as it did. -/
def fnIntBitsSpec : ChangeSpec := { name := "fnIntBits", fn := fun _ => fun
  | [d1, d2, d3, d4] => { results := [.lit (.bool true)], args := [d1, d2, d3, d4] }
  | _ => none }
def fnIntBitsRow : OpenClaim := { program := "ythnmkbdeoahiaaa", sum := "892e349a8a4e9866551cad18adc03fec915e55d54472d7c7bbc91e30d5ef5c80", func := "given.example/pub-larkspur/laws.FnIntBits", spec := "fnIntBits", inPlace := ["math/bits.Sub64", "math/bits.Add64"], recurses := true, apart := false }
def FnIntBitsSaid : Prop := fnIntBitsRow.holds Try.pinned (OpenSpec.ofChange fnIntBitsSpec)

/-- ITS FALSE NEIGHBOUR: 'it returns false'. Refute it at one input. -/
def fnIntBitsWrong : ChangeSpec := { name := "fnIntBits", fn := fun _ => fun
  | [d1, d2, d3, d4] => { results := [.lit (.bool false)], args := [d1, d2, d3, d4] }
  | _ => none }
def FnIntBitsWrongFalsely : Prop := fnIntBitsRow.holds Try.pinned (OpenSpec.ofChange fnIntBitsWrong)

/- THE SECOND FORM. 'bulk': how many values and letters a reading holds, each counted each time it is reached (what is shared counts as often as it is met; a slice's spare places count too). A statement '..UptoSaid' is the law's where the arguments, and the package variables that the reading takes, are together of bulk at most 1048576: NARROWER than '..Said'. Prove '..Said' where nothing that the law and all that it calls make is longer than what came in: it says more and counts as full. Else prove '..UptoSaid'. A law counts once. -/
mutual
def uptoBulk {H : Type} : DataW H → Nat
  | .lit (.string bytes) => bytes.length + 1
  | .lit _ => 1
  | .nil => 1
  | .ptr d => uptoBulk d + 1
  | .slice elems spare => uptoBulkAll elems + uptoBulkAll spare + 1
  | .agg parts => uptoBulkAll parts + 1
  | .iface _ d => uptoBulk d + 1
  | .map entries => uptoBulkEntries entries + 1
  | .held _ => 1
def uptoBulkAll {H : Type} : List (DataW H) → Nat
  | [] => 0
  | d :: r => uptoBulk d + uptoBulkAll r
def uptoBulkEntries {H : Type} : List (Lit × DataW H) → Nat
  | [] => 0
  | x :: r => uptoBulkEntry x + uptoBulkEntries r
def uptoBulkEntry {H : Type} : Lit × DataW H → Nat
  | (.string bytes, d) => bytes.length + uptoBulk d + 1
  | (_, d) => uptoBulk d + 1
 end
def uptoSmall : (H : Type) → List (DataW H) → Bool := fun _ ds => decide (uptoBulkAll ds ≤ 1048576)
def OpenSpec.upto (s : _root_.Go.ChangeSpec) : _root_.Go.OpenSpec := { _root_.Go.OpenSpec.ofChange s with cond := some uptoSmall }

/-- 'laws.FnChr', WHERE WHAT IT READS IS OF BULK AT MOST 1048576: true; the input reads as it did. -/
def fnChrUptoRow : OpenClaim := { program := "ythnmkbdeoahiaaa", sum := "892e349a8a4e9866551cad18adc03fec915e55d54472d7c7bbc91e30d5ef5c80", func := "given.example/pub-larkspur/laws.FnChr", spec := "fnChr", inPlace := ["math.Float64frombits"], apart := false, narrowed := true }
def FnChrUptoSaid : Prop := fnChrUptoRow.holds Try.pinned (OpenSpec.upto fnChrSpec)

/-- 'laws.FnStringRepeat', WHERE WHAT IT READS IS OF BULK AT MOST 1048576: true; the input reads as it did. -/
def fnStringRepeatUptoRow : OpenClaim := { program := "ythnmkbdeoahiaaa", sum := "892e349a8a4e9866551cad18adc03fec915e55d54472d7c7bbc91e30d5ef5c80", func := "given.example/pub-larkspur/laws.FnStringRepeat", spec := "fnStringRepeat", inPlace := ["internal/abi.NoEscape", "internal/bytealg.MakeNoZero"], apart := false, narrowed := true }
def FnStringRepeatUptoSaid : Prop := fnStringRepeatUptoRow.holds Try.pinned (OpenSpec.upto fnStringRepeatSpec)

/-- 'laws.FnIntBits', WHERE WHAT IT READS IS OF BULK AT MOST 1048576: true; the input reads as it did. -/
def fnIntBitsUptoRow : OpenClaim := { program := "ythnmkbdeoahiaaa", sum := "892e349a8a4e9866551cad18adc03fec915e55d54472d7c7bbc91e30d5ef5c80", func := "given.example/pub-larkspur/laws.FnIntBits", spec := "fnIntBits", inPlace := ["math/bits.Sub64", "math/bits.Add64"], recurses := true, apart := false, narrowed := true }
def FnIntBitsUptoSaid : Prop := fnIntBitsUptoRow.holds Try.pinned (OpenSpec.upto fnIntBitsSpec)

end Rows
end Go.Proofs.Ythnmkbdeoahiaaa
