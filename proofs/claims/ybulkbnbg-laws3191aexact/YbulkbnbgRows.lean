/-
  No cell of these rows narrows 'for every input' (looked for: loops, veiled, ifaces, maps, wideKeys, modest, calm, conditions, laid).
  DERIVED. THE GIVEN ROWS OF THIS SEAT. 1 by the template 'for every input the law returns true; each argument reads behind the call as it read before'; 0 by the template 'total and deterministic' (their statements: YbulkbnbgTotals.lean).
  GIVEN WITH THE SEED: the statements are not yours to turn. If you find one false, say at which input.
  Laid BY PROGRAM, IN A SANDBOX (cutbox-rows.mjs): the forced cells as the released guide's own fill.sh prints them over the translation 4b623793273a7984… (all of the seat's roots in one cut). By AI agents, Wed Nov 11 2026. No macro, syntax, notation, axiom, sorry.
-/
import Derived.Test.YbulkbnbgChecked
import GoSem.Claim
import GoSem.ClaimJoined
import GoSem.ClaimMapViews
import Derived.JoinedTies
import Derived.KernelRfl
namespace Go.Proofs.Ybulkbnbg
/- THE CELL 'sum', in the pinned program and in every row, IS THE sha256 OF THE DUMP (.gsa) THAT YbulkbnbgProg.lean LOADS. Nothing in Lean hashes anything: it is a label: what it is worth is what the hold of that sum in a sandbox is worth. -/
noncomputable def Yba.pinned : Pinned := { name := "ybulkbnbg", sum := "4b623793273a79840771ed94a0d8fe5e8562950d308dd8945686bdc5d22d8ec3", checked := Yba.checked }
namespace Rows
def none {H : Type} : Left H := { results := [], args := [] }

/-- 'versigraph.LawS3191AExact': WHATEVER THE INPUT: true; the input reads as it did. -/
def lawS3191AExactSpec : ChangeSpec := { name := "lawS3191AExact", fn := fun _ => fun
  | [d] => { results := [.lit (.bool true)], args := [d] }
  | _ => none }
def lawS3191AExactRow : OpenClaim := { program := "ybulkbnbg", sum := "4b623793273a79840771ed94a0d8fe5e8562950d308dd8945686bdc5d22d8ec3", func := "example.com/versigraph/versigraph.LawS3191AExact", spec := "lawS3191AExact", apart := false }
def LawS3191AExactSaid : Prop := lawS3191AExactRow.holds Yba.pinned (OpenSpec.ofChange lawS3191AExactSpec)

/-- ITS FALSE NEIGHBOUR: 'it returns false'. Refute it at one input. -/
def lawS3191AExactWrong : ChangeSpec := { name := "lawS3191AExact", fn := fun _ => fun
  | [d] => { results := [.lit (.bool false)], args := [d] }
  | _ => none }
def LawS3191AExactWrongFalsely : Prop := lawS3191AExactRow.holds Yba.pinned (OpenSpec.ofChange lawS3191AExactWrong)

end Rows
end Go.Proofs.Ybulkbnbg
