/-
  DERIVED. GIVEN WITH THE SEED: THE CARDS: each row of YtpcnmgldmnncoaaGreatDoorRows.lean that lists a variable, with what it lists TIED to the program's text (the seventh form; the later family's looks); each row that meets fmt, with fmt's text TOLD by the authors' own Lean function (tested against real Go, not proved from fmt's source: count such statements apart). THE CARD IS WHAT COUNTS. Prove the row's statement (the work); the ties are given (YtpcnmgldmnncoaaGreatDoorTie.lean); close each card by the builder's one call (the guide's Derived/Test/ToyasCard.lean, 'card_holds'). Laid BY PROGRAM, IN A SANDBOX (cutbox-door.mjs). By AI agents, Wed Nov 11 2026. No macro, syntax, notation, axiom, sorry.
-/
import Derived.Test.YtpcnmgldmnncoaaGreatDoorRows
import GoSem.ClaimSeven
namespace Go.Proofs.YtpcnmgldmnncoaaGreatDoor
namespace Rows

/-- THE TIED CARD OF 'laws.FnIntParts'. -/
def fnIntPartsCard : Claim7 := { stood := { row := fnIntPartsRow, standIns := [], harness := (true, "56936199a7c384822c3b260481292ef20c57d17ccb81f204015b028ad438e25a"), looks := false }, kinds := [], alts := [], laidByText := true, laidKinds := [.data, .data, .data, .data], laidTests := true, laidLooks := .later }
def FnIntPartsCardSaid : Prop := Claim7.holds Tryz.pinned (.plain (OpenSpec.ofChange fnIntPartsSpec)) fnIntPartsCard

/-- THE SECOND FORM's CARD OF 'laws.FnIntParts'. -/
def fnIntPartsUptoCard : Claim7 := { stood := { row := fnIntPartsUptoRow, standIns := [], harness := (true, "56936199a7c384822c3b260481292ef20c57d17ccb81f204015b028ad438e25a"), looks := false }, kinds := [], alts := [], laidByText := true, laidKinds := [.data, .data, .data, .data], laidTests := true, laidLooks := .later }
def FnIntPartsUptoCardSaid : Prop := Claim7.holds Tryz.pinned (.plain (OpenSpec.upto fnIntPartsSpec)) fnIntPartsUptoCard
end Rows
end Go.Proofs.YtpcnmgldmnncoaaGreatDoor
