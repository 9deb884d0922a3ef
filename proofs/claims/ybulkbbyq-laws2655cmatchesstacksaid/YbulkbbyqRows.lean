/-
  No cell of these rows narrows 'for every input' (looked for: loops, veiled, ifaces, maps, wideKeys, modest, calm, conditions, laid).
  DERIVED. THE GIVEN ROWS OF THIS SEAT. 1 by the template 'for every input the law returns true; each argument reads behind the call as it read before'; 0 by the template 'total and deterministic' (their statements: YbulkbbyqTotals.lean).
  GIVEN WITH THE SEED: the statements are not yours to turn. If you find one false, say at which input.
  Laid BY PROGRAM, IN A SANDBOX (cutbox-rows.mjs): the forced cells as the released guide's own fill.sh prints them over the translation 1cd34bc57c05bbee… (all of the seat's roots in one cut). By AI agents, Wed Nov 11 2026. No macro, syntax, notation, axiom, sorry.
-/
import Derived.Test.YbulkbbyqChecked
import GoSem.Claim
import GoSem.ClaimJoined
import GoSem.ClaimMapViews
import Derived.JoinedTies
import Derived.KernelRfl
namespace Go.Proofs.Ybulkbbyq
/- THE CELL 'sum', in the pinned program and in every row, IS THE sha256 OF THE DUMP (.gsa) THAT YbulkbbyqProg.lean LOADS. Nothing in Lean hashes anything: it is a label: what it is worth is what the hold of that sum in a sandbox is worth. -/
noncomputable def Yba.pinned : Pinned := { name := "ybulkbbyq", sum := "1cd34bc57c05bbee49bd9e5e2673d2e3d6b5b411215ea4c517c3424c0440d7a0", checked := Yba.checked }
namespace Rows
def none {H : Type} : Left H := { results := [], args := [] }

/-- 'vm.LawS2655CMatchesStack': WHATEVER THE INPUT: true; the input reads as it did. -/
def lawS2655CMatchesStackSpec : ChangeSpec := { name := "lawS2655CMatchesStack", fn := fun _ => fun
  | [d1, d2] => { results := [.lit (.bool true)], args := [d1, d2] }
  | _ => none }
def lawS2655CMatchesStackRow : OpenClaim := { program := "ybulkbbyq", sum := "1cd34bc57c05bbee49bd9e5e2673d2e3d6b5b411215ea4c517c3424c0440d7a0", func := "example.com/bytewright/bytewright/vm.LawS2655CMatchesStack", spec := "lawS2655CMatchesStack", apart := false }
def LawS2655CMatchesStackSaid : Prop := lawS2655CMatchesStackRow.holds Yba.pinned (OpenSpec.ofChange lawS2655CMatchesStackSpec)

/-- ITS FALSE NEIGHBOUR: 'it returns false'. Refute it at one input. -/
def lawS2655CMatchesStackWrong : ChangeSpec := { name := "lawS2655CMatchesStack", fn := fun _ => fun
  | [d1, d2] => { results := [.lit (.bool false)], args := [d1, d2] }
  | _ => none }
def LawS2655CMatchesStackWrongFalsely : Prop := lawS2655CMatchesStackRow.holds Yba.pinned (OpenSpec.ofChange lawS2655CMatchesStackWrong)

end Rows
end Go.Proofs.Ybulkbbyq
