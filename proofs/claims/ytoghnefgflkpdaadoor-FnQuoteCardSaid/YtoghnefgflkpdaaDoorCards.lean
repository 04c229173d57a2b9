/-
  DERIVED. GIVEN WITH THE SEED: THE CARDS: each row of YtoghnefgflkpdaaDoorRows.lean that lists a variable, with what it lists TIED to the program's text (the seventh form; the later family's looks); each row that meets fmt, with fmt's text TOLD by the authors' own Lean function (tested against real Go, not proved from fmt's source: count such statements apart). THE CARD IS WHAT COUNTS. Prove the row's statement (the work); the ties are given (YtoghnefgflkpdaaDoorTie.lean); close each card by the builder's one call (the guide's Derived/Test/ToyasCard.lean, 'card_holds'). Laid BY PROGRAM, IN A SANDBOX (cutbox-door.mjs). By AI agents, Wed Nov 11 2026. No macro, syntax, notation, axiom, sorry.
-/
import Derived.Test.YtoghnefgflkpdaaDoorRows
import GoSem.ClaimSeven
namespace Go.Proofs.YtoghnefgflkpdaaDoor
namespace Rows

/-- THE TIED CARD OF 'laws.FnQuote'. -/
def fnQuoteCard : Claim7 := { stood := { row := fnQuoteRow, standIns := [], harness := (true, "577547b9354dfba8ff8b5bb2b5b78463672ac3989ce43db7c990e2cbbfb7e070"), looks := false }, kinds := [], alts := [], laidByText := true, laidKinds := [.data, .pinned, .pinned, .pinned, .pinned, .pinned], laidTests := true, laidLooks := .later }
def FnQuoteCardSaid : Prop := Claim7.holds Tryd.pinned (.plain (OpenSpec.ofChange fnQuoteSpec)) fnQuoteCard

/-- THE SECOND FORM's CARD OF 'laws.FnQuote'. -/
def fnQuoteUptoCard : Claim7 := { stood := { row := fnQuoteUptoRow, standIns := [], harness := (true, "577547b9354dfba8ff8b5bb2b5b78463672ac3989ce43db7c990e2cbbfb7e070"), looks := false }, kinds := [], alts := [], laidByText := true, laidKinds := [.data, .pinned, .pinned, .pinned, .pinned, .pinned], laidTests := true, laidLooks := .later }
def FnQuoteUptoCardSaid : Prop := Claim7.holds Tryd.pinned (.plain (OpenSpec.upto fnQuoteSpec)) fnQuoteUptoCard
end Rows
end Go.Proofs.YtoghnefgflkpdaaDoor
