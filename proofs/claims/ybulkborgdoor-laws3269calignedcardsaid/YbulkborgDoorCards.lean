/-
  DERIVED. GIVEN WITH THE SEED: THE CARDS: each row of YbulkborgDoorRows.lean that lists a variable, with what it lists TIED to the program's text (the seventh form; the later family's looks); each row that meets fmt, with fmt's text TOLD by the authors' own Lean function (tested against real Go, not proved from fmt's source: count such statements apart). THE CARD IS WHAT COUNTS. Prove the row's statement (the work); the ties are given (YbulkborgDoorTie.lean); close each card by the builder's one call (the guide's Derived/Test/ToyasCard.lean, 'card_holds'). Laid BY PROGRAM, IN A SANDBOX (cutbox-door.mjs). By AI agents, Wed Nov 11 2026. No macro, syntax, notation, axiom, sorry.
-/
import Derived.Test.YbulkborgDoorRows
import GoSem.ClaimSeven
namespace Go.Proofs.YbulkborgDoor
namespace Rows

/-- THE TIED CARD OF 'ringherald.LawS3269CPlace'. -/
def lawS3269CPlaceCard : Claim7 := { stood := { row := lawS3269CPlaceRow, standIns := [], harness := (true, "52908269e50eff48093b3dd003129758ed70a59e2f219e997231305f6fc07eb6"), looks := false }, kinds := [], alts := [], laidByText := true, laidKinds := [.called, .called], laidTests := true, laidLooks := .later }
def LawS3269CPlaceCardSaid : Prop := Claim7.holds Ybad.pinned (.plain (OpenSpec.ofChange lawS3269CPlaceSpec)) lawS3269CPlaceCard

/-- THE TIED CARD OF 'ringherald.LawS3269CAligned'. -/
def lawS3269CAlignedCard : Claim7 := { stood := { row := lawS3269CAlignedRow, standIns := [], harness := (true, "52908269e50eff48093b3dd003129758ed70a59e2f219e997231305f6fc07eb6"), looks := false }, kinds := [], alts := [], laidByText := true, laidKinds := [.called, .called], laidTests := true, laidLooks := .later }
def LawS3269CAlignedCardSaid : Prop := Claim7.holds Ybad.pinned (.plain (OpenSpec.ofChange lawS3269CAlignedSpec)) lawS3269CAlignedCard
end Rows
end Go.Proofs.YbulkborgDoor
