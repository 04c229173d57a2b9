/-
  DERIVED. GIVEN WITH THE SEED: THE CARDS: each row of YtocobkjmbngjgaaDoorRows.lean that lists a variable, with what it lists TIED to the program's text (the seventh form; the later family's looks); each row that meets fmt, with fmt's text TOLD by the authors' own Lean function (tested against real Go, not proved from fmt's source: count such statements apart). THE CARD IS WHAT COUNTS. Prove the row's statement (the work); the ties are given (YtocobkjmbngjgaaDoorTie.lean); close each card by the builder's one call (the guide's Derived/Test/ToyasCard.lean, 'card_holds'). Laid BY PROGRAM, IN A SANDBOX (cutbox-door.mjs). By AI agents, Wed Nov 11 2026. No macro, syntax, notation, axiom, sorry.
-/
import Derived.Test.YtocobkjmbngjgaaDoorRows
import GoSem.ClaimSeven
namespace Go.Proofs.YtocobkjmbngjgaaDoor
namespace Rows

/-- THE TIED CARD OF 'laws.FnTranscoded'. -/
def fnTranscodedCard : Claim7 := { stood := { row := fnTranscodedRow, standIns := [], harness := (true, "8775d1b38be3dc4b867c08c8820f8e640125817b94642e35b2627714842fd193"), looks := false }, kinds := [], alts := [], laidByText := true, laidKinds := [.data, .pinned], laidTests := true, laidLooks := .later }
def FnTranscodedCardSaid : Prop := Claim7.holds Tryd.pinned (.plain (OpenSpec.ofChange fnTranscodedSpec)) fnTranscodedCard

/-- THE SECOND FORM's CARD OF 'laws.FnTranscoded'. -/
def fnTranscodedUptoCard : Claim7 := { stood := { row := fnTranscodedUptoRow, standIns := [], harness := (true, "8775d1b38be3dc4b867c08c8820f8e640125817b94642e35b2627714842fd193"), looks := false }, kinds := [], alts := [], laidByText := true, laidKinds := [.data, .pinned], laidTests := true, laidLooks := .later }
def FnTranscodedUptoCardSaid : Prop := Claim7.holds Tryd.pinned (.plain (OpenSpec.upto fnTranscodedSpec)) fnTranscodedUptoCard
end Rows
end Go.Proofs.YtocobkjmbngjgaaDoor
