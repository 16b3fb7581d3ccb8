/-
  No cell of these rows narrows 'for every input' (looked for: loops, veiled, ifaces, maps, wideKeys, modest, calm, conditions, laid).
  DERIVED. THE GIVEN ROWS OF THIS SEAT. 2 by the template 'for every input the law returns true; each argument reads behind the call as it read before'; 0 by the template 'total and deterministic' (their statements: YbulkbncwTotals.lean).
  GIVEN WITH THE SEED: the statements are not yours to turn. If you find one false, say at which input.
  Laid BY PROGRAM, IN A SANDBOX (cutbox-rows.mjs): the forced cells as the released guide's own fill.sh prints them over the translation b2c815e41a82fe48… (all of the seat's roots in one cut). By AI agents, Wed Nov 11 2026. No macro, syntax, notation, axiom, sorry.
-/
import Derived.Test.YbulkbncwChecked
import GoSem.Claim
import GoSem.ClaimJoined
import GoSem.ClaimMapViews
import Derived.JoinedTies
import Derived.KernelRfl
namespace Go.Proofs.Ybulkbncw
/- THE CELL 'sum', in the pinned program and in every row, IS THE sha256 OF THE DUMP (.gsa) THAT YbulkbncwProg.lean LOADS. Nothing in Lean hashes anything: it is a label: what it is worth is what the hold of that sum in a sandbox is worth. -/
noncomputable def Yba.pinned : Pinned := { name := "ybulkbncw", sum := "b2c815e41a82fe48cd06beef9021f16d4dcfba02e29b9b89c7fb9b672a64d01e", checked := Yba.checked }
namespace Rows
def none {H : Type} : Left H := { results := [], args := [] }

/-- 'aprs.LawS3194AExact': WHATEVER THE INPUT: true; the input reads as it did. -/
def lawS3194AExactSpec : ChangeSpec := { name := "lawS3194AExact", fn := fun _ => fun
  | [d1, d2, d3, d4, d5] => { results := [.lit (.bool true)], args := [d1, d2, d3, d4, d5] }
  | _ => none }
def lawS3194AExactRow : OpenClaim := { program := "ybulkbncw", sum := "b2c815e41a82fe48cd06beef9021f16d4dcfba02e29b9b89c7fb9b672a64d01e", func := "example.com/beaconwire/beaconwire/aprs.LawS3194AExact", spec := "lawS3194AExact", apart := false }
def LawS3194AExactSaid : Prop := lawS3194AExactRow.holds Yba.pinned (OpenSpec.ofChange lawS3194AExactSpec)

/-- ITS FALSE NEIGHBOUR: 'it returns false'. Refute it at one input. -/
def lawS3194AExactWrong : ChangeSpec := { name := "lawS3194AExact", fn := fun _ => fun
  | [d1, d2, d3, d4, d5] => { results := [.lit (.bool false)], args := [d1, d2, d3, d4, d5] }
  | _ => none }
def LawS3194AExactWrongFalsely : Prop := lawS3194AExactRow.holds Yba.pinned (OpenSpec.ofChange lawS3194AExactWrong)

/-- 'aprs.LawS3194ARoundTrip': WHATEVER THE INPUT: true; the input reads as it did. -/
def lawS3194ARoundTripSpec : ChangeSpec := { name := "lawS3194ARoundTrip", fn := fun _ => fun
  | [d] => { results := [.lit (.bool true)], args := [d] }
  | _ => none }
def lawS3194ARoundTripRow : OpenClaim := { program := "ybulkbncw", sum := "b2c815e41a82fe48cd06beef9021f16d4dcfba02e29b9b89c7fb9b672a64d01e", func := "example.com/beaconwire/beaconwire/aprs.LawS3194ARoundTrip", spec := "lawS3194ARoundTrip", apart := false }
def LawS3194ARoundTripSaid : Prop := lawS3194ARoundTripRow.holds Yba.pinned (OpenSpec.ofChange lawS3194ARoundTripSpec)

/-- ITS FALSE NEIGHBOUR: 'it returns false'. Refute it at one input. -/
def lawS3194ARoundTripWrong : ChangeSpec := { name := "lawS3194ARoundTrip", fn := fun _ => fun
  | [d] => { results := [.lit (.bool false)], args := [d] }
  | _ => none }
def LawS3194ARoundTripWrongFalsely : Prop := lawS3194ARoundTripRow.holds Yba.pinned (OpenSpec.ofChange lawS3194ARoundTripWrong)

end Rows
end Go.Proofs.Ybulkbncw
