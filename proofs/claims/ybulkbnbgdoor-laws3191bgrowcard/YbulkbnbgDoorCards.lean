/-
  DERIVED. GIVEN WITH THE SEED: THE CARDS: each row of YbulkbnbgDoorRows.lean that lists a variable, with what it lists TIED to the program's text (the seventh form; the later family's looks); each row that meets fmt, with fmt's text TOLD by the authors' own Lean function (tested against real Go, not proved from fmt's source: count such statements apart). THE CARD IS WHAT COUNTS. Prove the row's statement (the work); the ties are given (YbulkbnbgDoorTie.lean); close each card by the builder's one call (the guide's Derived/Test/ToyasCard.lean, 'card_holds'). Laid BY PROGRAM, IN A SANDBOX (cutbox-door.mjs). By AI agents, Wed Nov 11 2026. No macro, syntax, notation, axiom, sorry.
-/
import Derived.Test.YbulkbnbgDoorRows
import GoSem.ClaimSeven
namespace Go.Proofs.YbulkbnbgDoor
namespace Rows

/-- THE TIED CARD OF 'versigraph.LawS3191BClosure'. -/
def lawS3191BClosureCard : Claim7 := { stood := { row := lawS3191BClosureRow, standIns := [], harness := (true, "10ac75f0cffcca7f97c7bf6796339c057d41075b605bd6f8425da316ba49e376"), looks := false }, kinds := [], alts := [], laidByText := true, laidKinds := [.data], laidTests := true, laidLooks := .later }
def LawS3191BClosureCardSaid : Prop := Claim7.holds Ybad.pinned (.plain (OpenSpec.ofChange lawS3191BClosureSpec)) lawS3191BClosureCard

/-- THE TIED CARD OF 'versigraph.LawS3191BGrow'. -/
def lawS3191BGrowCard : Claim7 := { stood := { row := lawS3191BGrowRow, standIns := [], harness := (true, "10ac75f0cffcca7f97c7bf6796339c057d41075b605bd6f8425da316ba49e376"), looks := false }, kinds := [], alts := [], laidByText := true, laidKinds := [.data], laidTests := true, laidLooks := .later }
def LawS3191BGrowCardSaid : Prop := Claim7.holds Ybad.pinned (.plain (OpenSpec.ofChange lawS3191BGrowSpec)) lawS3191BGrowCard
end Rows
end Go.Proofs.YbulkbnbgDoor
