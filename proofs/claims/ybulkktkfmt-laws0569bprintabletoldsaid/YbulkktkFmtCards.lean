/-
  DERIVED. GIVEN WITH THE SEED: THE CARDS: each row of YbulkktkFmtRows.lean that lists a variable, with what it lists TIED to the program's text (the seventh form; the later family's looks); each row that meets fmt, with fmt's text TOLD by the authors' own Lean function (tested against real Go, not proved from fmt's source: count such statements apart). THE CARD IS WHAT COUNTS. Prove the row's statement (the work); the ties are given (YbulkktkFmtTie.lean); close each card by the builder's one call (the guide's Derived/Test/ToyasCard.lean, 'card_holds'). Laid BY PROGRAM, IN A SANDBOX (cutbox-door.mjs). By AI agents, Wed Nov 11 2026. No macro, syntax, notation, axiom, sorry.
-/
import Derived.Test.YbulkktkFmtRows
import GoSem.ClaimSeven
namespace Go.Proofs.YbulkktkFmt
namespace Rows

/-- THE TOLD CARD OF 'zonetext.LawS0569BPrintable'. -/
def lawS0569BPrintableCard : Claim7 := { stood := { row := lawS0569BPrintableRow, standIns := [], harness := (true, "ab219b0f071e879a1f614d477228831b885023cf008d4f546c616bd43747a46d"), looks := false }, told := true, goes := false }
def LawS0569BPrintableToldSaid : Prop := Claim7.holds Ybaf.pinned (.plain (OpenSpec.ofChange lawS0569BPrintableSpec)) lawS0569BPrintableCard
/-- ITS FALSE NEIGHBOUR. Refute it at one input. -/
def LawS0569BPrintableToldWrongFalsely : Prop := Claim7.holds Ybaf.pinned (.plain (OpenSpec.ofChange lawS0569BPrintableWrong)) lawS0569BPrintableCard

/-- THE TOLD CARD OF 'zonetext.LawS0569BShape'. -/
def lawS0569BShapeCard : Claim7 := { stood := { row := lawS0569BShapeRow, standIns := [], harness := (true, "ab219b0f071e879a1f614d477228831b885023cf008d4f546c616bd43747a46d"), looks := false }, told := true, goes := false }
def LawS0569BShapeToldSaid : Prop := Claim7.holds Ybaf.pinned (.plain (OpenSpec.ofChange lawS0569BShapeSpec)) lawS0569BShapeCard
/-- ITS FALSE NEIGHBOUR. Refute it at one input. -/
def LawS0569BShapeToldWrongFalsely : Prop := Claim7.holds Ybaf.pinned (.plain (OpenSpec.ofChange lawS0569BShapeWrong)) lawS0569BShapeCard
end Rows
end Go.Proofs.YbulkktkFmt
