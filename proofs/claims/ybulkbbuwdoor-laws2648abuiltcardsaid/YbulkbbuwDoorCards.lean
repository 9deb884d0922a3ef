/-
  DERIVED. GIVEN WITH THE SEED: THE CARDS: each row of YbulkbbuwDoorRows.lean that lists a variable, with what it lists TIED to the program's text (the seventh form; the later family's looks); each row that meets fmt, with fmt's text TOLD by the authors' own Lean function (tested against real Go, not proved from fmt's source: count such statements apart). THE CARD IS WHAT COUNTS. Prove the row's statement (the work); the ties are given (YbulkbbuwDoorTie.lean); close each card by the builder's one call (the guide's Derived/Test/ToyasCard.lean, 'card_holds'). Laid BY PROGRAM, IN A SANDBOX (cutbox-door.mjs). By AI agents, Wed Nov 11 2026. No macro, syntax, notation, axiom, sorry.
-/
import Derived.Test.YbulkbbuwDoorRows
import GoSem.ClaimSeven
namespace Go.Proofs.YbulkbbuwDoor
namespace Rows

/-- THE TIED CARD OF 'journal.LawS2648ARoundTrip'. -/
def lawS2648ARoundTripCard : Claim7 := { stood := { row := lawS2648ARoundTripRow, standIns := [], harness := (true, "e43bb674d5ba19f9e53e8eb5111b06a8a0c6adb9f013cba9ad62c43daa9d8e24"), looks := true }, kinds := [], alts := [], laidByText := true, laidKinds := [.data, .data, .data, .sentinel, .sentinel], laidTests := true, laidLooks := .later }
def LawS2648ARoundTripCardSaid : Prop := Claim7.holds Ybad.pinned (.plain (OpenSpec.ofChange lawS2648ARoundTripSpec)) lawS2648ARoundTripCard

/-- THE TIED CARD OF 'journal.LawS2648ABuilt'. -/
def lawS2648ABuiltCard : Claim7 := { stood := { row := lawS2648ABuiltRow, standIns := [], harness := (true, "e43bb674d5ba19f9e53e8eb5111b06a8a0c6adb9f013cba9ad62c43daa9d8e24"), looks := true }, kinds := [], alts := [], laidByText := true, laidKinds := [.data, .data, .data, .sentinel, .sentinel], laidTests := true, laidLooks := .later }
def LawS2648ABuiltCardSaid : Prop := Claim7.holds Ybad.pinned (.plain (OpenSpec.ofChange lawS2648ABuiltSpec)) lawS2648ABuiltCard

/-- THE TIED CARD OF 'journal.LawS2648ARaw'. -/
def lawS2648ARawCard : Claim7 := { stood := { row := lawS2648ARawRow, standIns := [], harness := (true, "e43bb674d5ba19f9e53e8eb5111b06a8a0c6adb9f013cba9ad62c43daa9d8e24"), looks := true }, kinds := [], alts := [], laidByText := true, laidKinds := [.data, .data, .data, .sentinel, .sentinel], laidTests := true, laidLooks := .later }
def LawS2648ARawCardSaid : Prop := Claim7.holds Ybad.pinned (.plain (OpenSpec.ofChange lawS2648ARawSpec)) lawS2648ARawCard
end Rows
end Go.Proofs.YbulkbbuwDoor
