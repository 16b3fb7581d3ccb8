/-
  DERIVED. GIVEN WITH THE SEED: THE CARDS: each row of YbulkbndkDoorRows.lean that lists a variable, with what it lists TIED to the program's text (the seventh form; the later family's looks); each row that meets fmt, with fmt's text TOLD by the authors' own Lean function (tested against real Go, not proved from fmt's source: count such statements apart). THE CARD IS WHAT COUNTS. Prove the row's statement (the work); the ties are given (YbulkbndkDoorTie.lean); close each card by the builder's one call (the guide's Derived/Test/ToyasCard.lean, 'card_holds'). Laid BY PROGRAM, IN A SANDBOX (cutbox-door.mjs). By AI agents, Wed Nov 11 2026. No macro, syntax, notation, axiom, sorry.
-/
import Derived.Test.YbulkbndkDoorRows
import GoSem.ClaimSeven
namespace Go.Proofs.YbulkbndkDoor
namespace Rows

/-- THE TIED CARD OF 'signalweft.LawS3195AAnnounce'. -/
def lawS3195AAnnounceCard : Claim7 := { stood := { row := lawS3195AAnnounceRow, standIns := [], harness := (true, "58246f687c7d7358d39f212c391c6ad08a984af576eb851908ba0637ab5937e1"), looks := false }, kinds := [], alts := [], laidByText := true, laidKinds := [.mapped], laidTests := true, laidLooks := .later }
def LawS3195AAnnounceCardSaid : Prop := Claim7.holds Ybad.pinned (.plain (OpenSpec.ofChange lawS3195AAnnounceSpec)) lawS3195AAnnounceCard
end Rows
end Go.Proofs.YbulkbndkDoor
