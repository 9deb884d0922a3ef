/-
  No cell of these rows narrows 'for every input' (looked for: loops, veiled, ifaces, maps, wideKeys, modest, calm, conditions, laid).
  DERIVED. THE GIVEN ROWS OF THIS SEAT. 2 by the template 'for every input the law returns true; each argument reads behind the call as it read before'; 0 by the template 'total and deterministic' (their statements: YbulkbbvkTotals.lean).
  GIVEN WITH THE SEED: the statements are not yours to turn. If you find one false, say at which input.
  Laid BY PROGRAM, IN A SANDBOX (cutbox-rows.mjs): the forced cells as the released guide's own fill.sh prints them over the translation 1988dcfa4b145a1e… (all of the seat's roots in one cut). By AI agents, Wed Nov 11 2026. No macro, syntax, notation, axiom, sorry.
-/
import Derived.Test.YbulkbbvkChecked
import GoSem.Claim
import GoSem.ClaimJoined
import GoSem.ClaimMapViews
import Derived.JoinedTies
import Derived.KernelRfl
namespace Go.Proofs.Ybulkbbvk
/- THE CELL 'sum', in the pinned program and in every row, IS THE sha256 OF THE DUMP (.gsa) THAT YbulkbbvkProg.lean LOADS. Nothing in Lean hashes anything: it is a label: what it is worth is what the hold of that sum in a sandbox is worth. -/
noncomputable def Yba.pinned : Pinned := { name := "ybulkbbvk", sum := "1988dcfa4b145a1e753eec2d0a519b39c60f5de8f50d5892528ad52a8c517214", checked := Yba.checked }
namespace Rows
def none {H : Type} : Left H := { results := [], args := [] }

/-- 'program.LawS2649CSpan': WHATEVER THE INPUT: true; the input reads as it did. -/
def lawS2649CSpanSpec : ChangeSpec := { name := "lawS2649CSpan", fn := fun _ => fun
  | [d1, d2] => { results := [.lit (.bool true)], args := [d1, d2] }
  | _ => none }
def lawS2649CSpanRow : OpenClaim := { program := "ybulkbbvk", sum := "1988dcfa4b145a1e753eec2d0a519b39c60f5de8f50d5892528ad52a8c517214", func := "example.com/latchwork/latchwork/internal/program.LawS2649CSpan", spec := "lawS2649CSpan", apart := false }
def LawS2649CSpanSaid : Prop := lawS2649CSpanRow.holds Yba.pinned (OpenSpec.ofChange lawS2649CSpanSpec)

/-- ITS FALSE NEIGHBOUR: 'it returns false'. Refute it at one input. -/
def lawS2649CSpanWrong : ChangeSpec := { name := "lawS2649CSpan", fn := fun _ => fun
  | [d1, d2] => { results := [.lit (.bool false)], args := [d1, d2] }
  | _ => none }
def LawS2649CSpanWrongFalsely : Prop := lawS2649CSpanRow.holds Yba.pinned (OpenSpec.ofChange lawS2649CSpanWrong)

/-- 'program.LawS2649CRaw': WHATEVER THE INPUT: true; the input reads as it did. -/
def lawS2649CRawSpec : ChangeSpec := { name := "lawS2649CRaw", fn := fun _ => fun
  | [d1, d2, d3] => { results := [.lit (.bool true)], args := [d1, d2, d3] }
  | _ => none }
def lawS2649CRawRow : OpenClaim := { program := "ybulkbbvk", sum := "1988dcfa4b145a1e753eec2d0a519b39c60f5de8f50d5892528ad52a8c517214", func := "example.com/latchwork/latchwork/internal/program.LawS2649CRaw", spec := "lawS2649CRaw", apart := false }
def LawS2649CRawSaid : Prop := lawS2649CRawRow.holds Yba.pinned (OpenSpec.ofChange lawS2649CRawSpec)

/-- ITS FALSE NEIGHBOUR: 'it returns false'. Refute it at one input. -/
def lawS2649CRawWrong : ChangeSpec := { name := "lawS2649CRaw", fn := fun _ => fun
  | [d1, d2, d3] => { results := [.lit (.bool false)], args := [d1, d2, d3] }
  | _ => none }
def LawS2649CRawWrongFalsely : Prop := lawS2649CRawRow.holds Yba.pinned (OpenSpec.ofChange lawS2649CRawWrong)

end Rows
end Go.Proofs.Ybulkbbvk
