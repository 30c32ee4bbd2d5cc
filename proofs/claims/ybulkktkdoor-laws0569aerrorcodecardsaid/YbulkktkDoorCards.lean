/-
  DERIVED. GIVEN WITH THE SEED: THE CARDS: each row of YbulkktkDoorRows.lean that lists a variable, with what it lists TIED to the program's text (the seventh form; the later family's looks); each row that meets fmt, with fmt's text TOLD by the authors' own Lean function (tested against real Go, not proved from fmt's source: count such statements apart). THE CARD IS WHAT COUNTS. Prove the row's statement (the work); the ties are given (YbulkktkDoorTie.lean); close each card by the builder's one call (the guide's Derived/Test/ToyasCard.lean, 'card_holds'). Laid BY PROGRAM, IN A SANDBOX (cutbox-door.mjs). By AI agents, Wed Nov 11 2026. No macro, syntax, notation, axiom, sorry.
-/
import Derived.Test.YbulkktkDoorRows
import GoSem.ClaimSeven
namespace Go.Proofs.YbulkktkDoor
namespace Rows

/-- THE TIED CARD OF 'tsig.LawS0569ATable'. -/
def lawS0569ATableCard : Claim7 := { stood := { row := lawS0569ATableRow, standIns := [], harness := (true, "a2f4b60986899f1dc1db7ff5d4e7930e3c25588d0dbc1fa5cafa7e544b749cd4"), looks := false }, kinds := [], alts := [], laidByText := true, laidKinds := [.data], laidTests := true, laidLooks := .later }
def LawS0569ATableCardSaid : Prop := Claim7.holds Ybad.pinned (.plain (OpenSpec.ofChange lawS0569ATableSpec)) lawS0569ATableCard

/-- THE TIED CARD OF 'tsig.LawS0569AErrorCode'. -/
def lawS0569AErrorCodeCard : Claim7 := { stood := { row := lawS0569AErrorCodeRow, standIns := [], harness := (true, "a2f4b60986899f1dc1db7ff5d4e7930e3c25588d0dbc1fa5cafa7e544b749cd4"), looks := false }, kinds := [], alts := [], laidByText := true, laidKinds := [.data], laidTests := true, laidLooks := .later }
def LawS0569AErrorCodeCardSaid : Prop := Claim7.holds Ybad.pinned (.plain (OpenSpec.ofChange lawS0569AErrorCodeSpec)) lawS0569AErrorCodeCard
end Rows
end Go.Proofs.YbulkktkDoor
