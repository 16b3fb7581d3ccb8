/-
  NARROWER THAN 'FOR EVERY INPUT', by the rows' own cells (each row's printed sentence says how): LawS3195AAnnounce: maps, laid.
  DERIVED. THE GIVEN ROWS OF THIS SEAT. 1 by the template 'for every input the law returns true; each argument reads behind the call as it read before'; 0 by the template 'total and deterministic' (their statements: YbulkbndkDoorTotals.lean).
  GIVEN WITH THE SEED: the statements are not yours to turn. If you find one false, say at which input.
  Laid BY PROGRAM, IN A SANDBOX (cutbox-rows.mjs): the forced cells as the released guide's own fill.sh prints them over the translation 3edfc131ea6b9af7… (all of the seat's roots in one cut). By AI agents, Wed Nov 11 2026. No macro, syntax, notation, axiom, sorry.
-/
import Derived.Test.YbulkbndkDoorChecked
import GoSem.Claim
import GoSem.ClaimJoined
import GoSem.ClaimMapViews
import Derived.JoinedTies
import Derived.KernelRfl
namespace Go.Proofs.YbulkbndkDoor
/- THE CELL 'sum', in the pinned program and in every row, IS THE sha256 OF THE DUMP (.gsa) THAT YbulkbndkDoorProg.lean LOADS. Nothing in Lean hashes anything: it is a label: what it is worth is what the hold of that sum in a sandbox is worth. -/
noncomputable def Ybad.pinned : Pinned := { name := "ybulkbndkdoor", sum := "3edfc131ea6b9af7098487e1c87cae619cde68b813c6dbe29771295d0b97ef48", checked := Ybad.checked }
namespace Rows
def none {H : Type} : Left H := { results := [], args := [] }

/- WHAT THE LISTED PACKAGE-LEVEL VARIABLES READ AS WHEN THE CALL BEGINS. Each datum BY PROGRAM (the guide's laid-datum.mjs) off the statement by which the dump's own 'gosem.cut.vars' lays the variable. In a bare row this is a premise. The card (YbulkbndkDoorCards.lean) ties it to the program's text. -/
def laid_example_com_signalweft_signalweft_asStateStatus {H : Type} : DataW H := .map [(.string [65, 83, 45, 65, 67, 84, 73, 86, 69], .lit (.int .u32 65539)), (.string [65, 83, 45, 73, 78, 65, 67, 84, 73, 86, 69], .lit (.int .u32 65538)), (.string [65, 83, 45, 80, 69, 78, 68, 73, 78, 71], .lit (.int .u32 65540))]

/-- 'signalweft.LawS3195AAnnounce': WHATEVER THE INPUT: true; the input reads as it did. -/
def lawS3195AAnnounceSpec : ChangeSpec := { name := "lawS3195AAnnounce", vars := ["example.com/signalweft/signalweft.asStateStatus"], fn := fun _ => fun
  | [d1, d2, d3, g1] => { results := [.lit (.bool true)], args := [d1, d2, d3], vars := [g1] }
  | _ => none }
def lawS3195AAnnounceRow : OpenClaim := { program := "ybulkbndkdoor", sum := "3edfc131ea6b9af7098487e1c87cae619cde68b813c6dbe29771295d0b97ef48", func := "example.com/signalweft/signalweft.LawS3195AAnnounce", spec := "lawS3195AAnnounce", unfollowed := true, recurses := true, named := ["example.com/signalweft/signalweft.asStateStatus", "encoding/binary.BigEndian"], maps := true, apart := false, laid := [("example.com/signalweft/signalweft.asStateStatus", laid_example_com_signalweft_signalweft_asStateStatus)] }
def LawS3195AAnnounceSaid : Prop := lawS3195AAnnounceRow.holds Ybad.pinned (OpenSpec.ofChange lawS3195AAnnounceSpec)

/-- ITS FALSE NEIGHBOUR: 'it returns false'. Refute it at one input. -/
def lawS3195AAnnounceWrong : ChangeSpec := { name := "lawS3195AAnnounce", vars := ["example.com/signalweft/signalweft.asStateStatus"], fn := fun _ => fun
  | [d1, d2, d3, g1] => { results := [.lit (.bool false)], args := [d1, d2, d3], vars := [g1] }
  | _ => none }
def LawS3195AAnnounceWrongFalsely : Prop := lawS3195AAnnounceRow.holds Ybad.pinned (OpenSpec.ofChange lawS3195AAnnounceWrong)

end Rows
end Go.Proofs.YbulkbndkDoor
