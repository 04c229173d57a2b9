/-
  DERIVED. GIVEN WITH THE SEED: THE CARDS: each row of YtbfgjaammmpcdaaGreatDoorRows.lean that lists a variable, with what it lists TIED to the program's text (the seventh form; the later family's looks); each row that meets fmt, with fmt's text TOLD by the authors' own Lean function (tested against real Go, not proved from fmt's source: count such statements apart). THE CARD IS WHAT COUNTS. Prove the row's statement (the work); the ties are given (YtbfgjaammmpcdaaGreatDoorTie.lean); close each card by the builder's one call (the guide's Derived/Test/ToyasCard.lean, 'card_holds'). Laid BY PROGRAM, IN A SANDBOX (cutbox-door.mjs). By AI agents, Wed Nov 11 2026. No macro, syntax, notation, axiom, sorry.
-/
import Derived.Test.YtbfgjaammmpcdaaGreatDoorRows
import GoSem.ClaimSeven
namespace Go.Proofs.YtbfgjaammmpcdaaGreatDoor
namespace Rows

/-- THE TIED CARD OF 'laws.FnIntRead'. -/
def fnIntReadCard : Claim7 := { stood := { row := fnIntReadRow, standIns := [], harness := (true, "fd00985cca44181e73bf9124c4fb3a02e46d386f3fce89a61c553e3318fddc59"), looks := true }, kinds := [], alts := [], laidByText := true, laidKinds := [.sentinel, .sentinel, .sentinel], laidTests := true, laidLooks := .later }
def FnIntReadCardSaid : Prop := Claim7.holds Tryz.pinned (.plain (OpenSpec.ofChange fnIntReadSpec)) fnIntReadCard

/-- THE TIED CARD OF 'laws.FnIntParts'. -/
def fnIntPartsCard : Claim7 := { stood := { row := fnIntPartsRow, standIns := [], harness := (true, "fd00985cca44181e73bf9124c4fb3a02e46d386f3fce89a61c553e3318fddc59"), looks := true }, kinds := [], alts := [], laidByText := true, laidKinds := [.data, .data, .data, .data], laidTests := true, laidLooks := .later }
def FnIntPartsCardSaid : Prop := Claim7.holds Tryz.pinned (.plain (OpenSpec.ofChange fnIntPartsSpec)) fnIntPartsCard

/-- THE SECOND FORM's CARD OF 'laws.FnIntRead'. -/
def fnIntReadUptoCard : Claim7 := { stood := { row := fnIntReadUptoRow, standIns := [], harness := (true, "fd00985cca44181e73bf9124c4fb3a02e46d386f3fce89a61c553e3318fddc59"), looks := true }, kinds := [], alts := [], laidByText := true, laidKinds := [.sentinel, .sentinel, .sentinel], laidTests := true, laidLooks := .later }
def FnIntReadUptoCardSaid : Prop := Claim7.holds Tryz.pinned (.plain (OpenSpec.upto fnIntReadSpec)) fnIntReadUptoCard

/-- THE SECOND FORM's CARD OF 'laws.FnIntParts'. -/
def fnIntPartsUptoCard : Claim7 := { stood := { row := fnIntPartsUptoRow, standIns := [], harness := (true, "fd00985cca44181e73bf9124c4fb3a02e46d386f3fce89a61c553e3318fddc59"), looks := true }, kinds := [], alts := [], laidByText := true, laidKinds := [.data, .data, .data, .data], laidTests := true, laidLooks := .later }
def FnIntPartsUptoCardSaid : Prop := Claim7.holds Tryz.pinned (.plain (OpenSpec.upto fnIntPartsSpec)) fnIntPartsUptoCard
end Rows
end Go.Proofs.YtbfgjaammmpcdaaGreatDoor
