/-
  DERIVED. GIVEN WITH THE SEED: THE CARDS: each row of YbulklayFmtRows.lean that lists a variable, with what it lists TIED to the program's text (the seventh form; the later family's looks); each row that meets fmt, with fmt's text TOLD by the authors' own Lean function (tested against real Go, not proved from fmt's source: count such statements apart). THE CARD IS WHAT COUNTS. Prove the row's statement (the work); the ties are given (YbulklayFmtTie.lean); close each card by the builder's one call (the guide's Derived/Test/ToyasCard.lean, 'card_holds'). Laid BY PROGRAM, IN A SANDBOX (cutbox-door.mjs). By AI agents, Wed Nov 11 2026. No macro, syntax, notation, axiom, sorry.
-/
import Derived.Test.YbulklayFmtRows
import GoSem.ClaimSeven
namespace Go.Proofs.YbulklayFmt
namespace Rows

/-- THE TOLD AND TIED CARD OF 'node.LawS0583BLow'. -/
def lawS0583BLowCard : Claim7 := { stood := { row := lawS0583BLowRow, standIns := [], harness := (true, "3dec22df8cb8787fce96ffda8be606ec0659022b40beb812f3f4db71a35bd497"), looks := false }, told := true, laidByText := true, laidKinds := [.data], laidTests := true, laidLooks := .later, goes := false }
def LawS0583BLowToldSaid : Prop := Claim7.holds Ybaf.pinned (.plain (OpenSpec.ofChange lawS0583BLowSpec)) lawS0583BLowCard
/-- ITS FALSE NEIGHBOUR. Refute it at one input. -/
def LawS0583BLowToldWrongFalsely : Prop := Claim7.holds Ybaf.pinned (.plain (OpenSpec.ofChange lawS0583BLowWrong)) lawS0583BLowCard

/-- THE TOLD AND TIED CARD OF 'node.LawS0583BHigh'. -/
def lawS0583BHighCard : Claim7 := { stood := { row := lawS0583BHighRow, standIns := [], harness := (true, "3dec22df8cb8787fce96ffda8be606ec0659022b40beb812f3f4db71a35bd497"), looks := false }, told := true, laidByText := true, laidKinds := [.data], laidTests := true, laidLooks := .later, goes := false }
def LawS0583BHighToldSaid : Prop := Claim7.holds Ybaf.pinned (.plain (OpenSpec.ofChange lawS0583BHighSpec)) lawS0583BHighCard
/-- ITS FALSE NEIGHBOUR. Refute it at one input. -/
def LawS0583BHighToldWrongFalsely : Prop := Claim7.holds Ybaf.pinned (.plain (OpenSpec.ofChange lawS0583BHighWrong)) lawS0583BHighCard
end Rows
end Go.Proofs.YbulklayFmt
