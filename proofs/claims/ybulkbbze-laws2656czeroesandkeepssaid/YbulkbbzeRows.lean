/-
  No cell of these rows narrows 'for every input' (looked for: loops, veiled, ifaces, maps, wideKeys, modest, calm, conditions, laid).
  DERIVED. THE GIVEN ROWS OF THIS SEAT. 2 by the template 'for every input the law returns true; each argument reads behind the call as it read before'; 0 by the template 'total and deterministic' (their statements: YbulkbbzeTotals.lean).
  GIVEN WITH THE SEED: the statements are not yours to turn. If you find one false, say at which input.
  Laid BY PROGRAM, IN A SANDBOX (cutbox-rows.mjs): the forced cells as the released guide's own fill.sh prints them over the translation d74adb33165ffe76… (all of the seat's roots in one cut). By AI agents, Wed Nov 11 2026. No macro, syntax, notation, axiom, sorry.
-/
import Derived.Test.YbulkbbzeChecked
import GoSem.Claim
import GoSem.ClaimJoined
import GoSem.ClaimMapViews
import Derived.JoinedTies
import Derived.KernelRfl
namespace Go.Proofs.Ybulkbbze
/- THE CELL 'sum', in the pinned program and in every row, IS THE sha256 OF THE DUMP (.gsa) THAT YbulkbbzeProg.lean LOADS. Nothing in Lean hashes anything: it is a label: what it is worth is what the hold of that sum in a sandbox is worth. -/
noncomputable def Yba.pinned : Pinned := { name := "ybulkbbze", sum := "d74adb33165ffe76340f6a2ace994493a1ad61c2e68212160788cd4474f76198", checked := Yba.checked }
namespace Rows
def none {H : Type} : Left H := { results := [], args := [] }

/-- 'model.LawS2656CZeroesAndKeeps': WHATEVER THE INPUT: true; the input reads as it did. -/
def lawS2656CZeroesAndKeepsSpec : ChangeSpec := { name := "lawS2656CZeroesAndKeeps", fn := fun _ => fun
  | [d1, d2, d3, d4, d5, d6, d7, d8] => { results := [.lit (.bool true)], args := [d1, d2, d3, d4, d5, d6, d7, d8] }
  | _ => none }
def lawS2656CZeroesAndKeepsRow : OpenClaim := { program := "ybulkbbze", sum := "d74adb33165ffe76340f6a2ace994493a1ad61c2e68212160788cd4474f76198", func := "example.com/quorumwright/quorumwright/internal/model.LawS2656CZeroesAndKeeps", spec := "lawS2656CZeroesAndKeeps", apart := false }
def LawS2656CZeroesAndKeepsSaid : Prop := lawS2656CZeroesAndKeepsRow.holds Yba.pinned (OpenSpec.ofChange lawS2656CZeroesAndKeepsSpec)

/-- ITS FALSE NEIGHBOUR: 'it returns false'. Refute it at one input. -/
def lawS2656CZeroesAndKeepsWrong : ChangeSpec := { name := "lawS2656CZeroesAndKeeps", fn := fun _ => fun
  | [d1, d2, d3, d4, d5, d6, d7, d8] => { results := [.lit (.bool false)], args := [d1, d2, d3, d4, d5, d6, d7, d8] }
  | _ => none }
def LawS2656CZeroesAndKeepsWrongFalsely : Prop := lawS2656CZeroesAndKeepsRow.holds Yba.pinned (OpenSpec.ofChange lawS2656CZeroesAndKeepsWrong)

/-- 'model.LawS2656CTakeGivesItBack': WHATEVER THE INPUT: true; the input reads as it did. -/
def lawS2656CTakeGivesItBackSpec : ChangeSpec := { name := "lawS2656CTakeGivesItBack", fn := fun _ => fun
  | [d1, d2, d3] => { results := [.lit (.bool true)], args := [d1, d2, d3] }
  | _ => none }
def lawS2656CTakeGivesItBackRow : OpenClaim := { program := "ybulkbbze", sum := "d74adb33165ffe76340f6a2ace994493a1ad61c2e68212160788cd4474f76198", func := "example.com/quorumwright/quorumwright/internal/model.LawS2656CTakeGivesItBack", spec := "lawS2656CTakeGivesItBack", apart := false }
def LawS2656CTakeGivesItBackSaid : Prop := lawS2656CTakeGivesItBackRow.holds Yba.pinned (OpenSpec.ofChange lawS2656CTakeGivesItBackSpec)

/-- ITS FALSE NEIGHBOUR: 'it returns false'. Refute it at one input. -/
def lawS2656CTakeGivesItBackWrong : ChangeSpec := { name := "lawS2656CTakeGivesItBack", fn := fun _ => fun
  | [d1, d2, d3] => { results := [.lit (.bool false)], args := [d1, d2, d3] }
  | _ => none }
def LawS2656CTakeGivesItBackWrongFalsely : Prop := lawS2656CTakeGivesItBackRow.holds Yba.pinned (OpenSpec.ofChange lawS2656CTakeGivesItBackWrong)

end Rows
end Go.Proofs.Ybulkbbze
