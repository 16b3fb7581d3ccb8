/-
  No cell of these rows narrows 'for every input' (looked for: loops, veiled, ifaces, maps, wideKeys, modest, calm, conditions, laid).
  DERIVED. THE GIVEN ROWS OF THIS SEAT. 2 by the template 'for every input the law returns true; each argument reads behind the call as it read before'; 0 by the template 'total and deterministic' (their statements: YbulkbnbuTotals.lean).
  GIVEN WITH THE SEED: the statements are not yours to turn. If you find one false, say at which input.
  Laid BY PROGRAM, IN A SANDBOX (cutbox-rows.mjs): the forced cells as the released guide's own fill.sh prints them over the translation bf21f566b401036f… (all of the seat's roots in one cut). By AI agents, Wed Nov 11 2026. No macro, syntax, notation, axiom, sorry.
-/
import Derived.Test.YbulkbnbuChecked
import GoSem.Claim
import GoSem.ClaimJoined
import GoSem.ClaimMapViews
import Derived.JoinedTies
import Derived.KernelRfl
namespace Go.Proofs.Ybulkbnbu
/- THE CELL 'sum', in the pinned program and in every row, IS THE sha256 OF THE DUMP (.gsa) THAT YbulkbnbuProg.lean LOADS. Nothing in Lean hashes anything: it is a label: what it is worth is what the hold of that sum in a sandbox is worth. -/
noncomputable def Yba.pinned : Pinned := { name := "ybulkbnbu", sum := "bf21f566b401036fe916d12280e7b1b57cb80f82a9bc4e0405cf91a49b69255a", checked := Yba.checked }
namespace Rows
def none {H : Type} : Left H := { results := [], args := [] }

/-- 'knapsack.LawS3192CMatchesBruteForce': WHATEVER THE INPUT: true; the input reads as it did. -/
def lawS3192CMatchesBruteForceSpec : ChangeSpec := { name := "lawS3192CMatchesBruteForce", fn := fun _ => fun
  | [d1, d2, d3] => { results := [.lit (.bool true)], args := [d1, d2, d3] }
  | _ => none }
def lawS3192CMatchesBruteForceRow : OpenClaim := { program := "ybulkbnbu", sum := "bf21f566b401036fe916d12280e7b1b57cb80f82a9bc4e0405cf91a49b69255a", func := "example.com/batchwright/batchwright/knapsack.LawS3192CMatchesBruteForce", spec := "lawS3192CMatchesBruteForce", inPlace := ["math.Float64frombits", "math.Float64bits"], unfollowed := true, recurses := true, apart := false }
def LawS3192CMatchesBruteForceSaid : Prop := lawS3192CMatchesBruteForceRow.holds Yba.pinned (OpenSpec.ofChange lawS3192CMatchesBruteForceSpec)

/-- ITS FALSE NEIGHBOUR: 'it returns false'. Refute it at one input. -/
def lawS3192CMatchesBruteForceWrong : ChangeSpec := { name := "lawS3192CMatchesBruteForce", fn := fun _ => fun
  | [d1, d2, d3] => { results := [.lit (.bool false)], args := [d1, d2, d3] }
  | _ => none }
def LawS3192CMatchesBruteForceWrongFalsely : Prop := lawS3192CMatchesBruteForceRow.holds Yba.pinned (OpenSpec.ofChange lawS3192CMatchesBruteForceWrong)

/-- 'knapsack.LawS3192CAllFit': WHATEVER THE INPUT: true; the input reads as it did. -/
def lawS3192CAllFitSpec : ChangeSpec := { name := "lawS3192CAllFit", fn := fun _ => fun
  | [d1, d2, d3] => { results := [.lit (.bool true)], args := [d1, d2, d3] }
  | _ => none }
def lawS3192CAllFitRow : OpenClaim := { program := "ybulkbnbu", sum := "bf21f566b401036fe916d12280e7b1b57cb80f82a9bc4e0405cf91a49b69255a", func := "example.com/batchwright/batchwright/knapsack.LawS3192CAllFit", spec := "lawS3192CAllFit", inPlace := ["math.Float64frombits", "math.Float64bits"], unfollowed := true, recurses := true, apart := false }
def LawS3192CAllFitSaid : Prop := lawS3192CAllFitRow.holds Yba.pinned (OpenSpec.ofChange lawS3192CAllFitSpec)

/-- ITS FALSE NEIGHBOUR: 'it returns false'. Refute it at one input. -/
def lawS3192CAllFitWrong : ChangeSpec := { name := "lawS3192CAllFit", fn := fun _ => fun
  | [d1, d2, d3] => { results := [.lit (.bool false)], args := [d1, d2, d3] }
  | _ => none }
def LawS3192CAllFitWrongFalsely : Prop := lawS3192CAllFitRow.holds Yba.pinned (OpenSpec.ofChange lawS3192CAllFitWrong)

end Rows
end Go.Proofs.Ybulkbnbu
