/-
  DERIVED. GIVEN WITH THE SEED: THE CARDS: each row of YbulkawcgDoorRows.lean that lists a variable, with what it lists TIED to the program's text (the seventh form; the later family's looks); each row that meets fmt, with fmt's text TOLD by the authors' own Lean function (tested against real Go, not proved from fmt's source: count such statements apart). THE CARD IS WHAT COUNTS. Prove the row's statement (the work); the ties are given (YbulkawcgDoorTie.lean); close each card by the builder's one call (the guide's Derived/Test/ToyasCard.lean, 'card_holds'). Laid BY PROGRAM, IN A SANDBOX (cutbox-door.mjs). By AI agents, Wed Nov 11 2026. No macro, syntax, notation, axiom, sorry.
-/
import Derived.Test.YbulkawcgDoorRows
import GoSem.ClaimSeven
namespace Go.Proofs.YbulkawcgDoor
namespace Rows

/-- THE TIED CARD OF 'fund.LawS2372CSigned'. -/
def lawS2372CSignedCard : Claim7 := { stood := { row := lawS2372CSignedRow, standIns := [], harness := (true, "aff0b46055768863337de1d053af46492e65b0333dd3cf11aea7ebe477cdd3c8"), looks := false }, kinds := [], alts := [], laidByText := true, laidKinds := [.mapped], laidTests := true, laidLooks := .later }
def LawS2372CSignedCardSaid : Prop := Claim7.holds Ybad.pinned (.plain (OpenSpec.ofChange lawS2372CSignedSpec)) lawS2372CSignedCard

/-- THE TIED CARD OF 'fund.LawS2372CFresh'. -/
def lawS2372CFreshCard : Claim7 := { stood := { row := lawS2372CFreshRow, standIns := [], harness := (true, "aff0b46055768863337de1d053af46492e65b0333dd3cf11aea7ebe477cdd3c8"), looks := false }, kinds := [], alts := [], laidByText := true, laidKinds := [.mapped], laidTests := true, laidLooks := .later }
def LawS2372CFreshCardSaid : Prop := Claim7.holds Ybad.pinned (.plain (OpenSpec.ofChange lawS2372CFreshSpec)) lawS2372CFreshCard
end Rows
end Go.Proofs.YbulkawcgDoor
