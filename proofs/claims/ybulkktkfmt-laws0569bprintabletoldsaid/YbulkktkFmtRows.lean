/-
  No cell of these rows narrows 'for every input' (looked for: loops, veiled, ifaces, maps, wideKeys, modest, calm, conditions, laid).
  DERIVED. THE GIVEN ROWS OF THIS SEAT. 2 by the template 'for every input the law returns true; each argument reads behind the call as it read before'; 0 by the template 'total and deterministic' (their statements: YbulkktkFmtTotals.lean).
  GIVEN WITH THE SEED: the statements are not yours to turn. If you find one false, say at which input.
  Laid BY PROGRAM, IN A SANDBOX (cutbox-rows.mjs): the forced cells as the released guide's own fill.sh prints them over the translation 5ff41934a6ce4979… (all of the seat's roots in one cut). By AI agents, Wed Nov 11 2026. No macro, syntax, notation, axiom, sorry.
-/
import Derived.Test.YbulkktkFmtChecked
import GoSem.Claim
import GoSem.ClaimJoined
import GoSem.ClaimMapViews
import Derived.JoinedTies
import Derived.KernelRfl
namespace Go.Proofs.YbulkktkFmt
/- THE CELL 'sum', in the pinned program and in every row, IS THE sha256 OF THE DUMP (.gsa) THAT YbulkktkFmtProg.lean LOADS. Nothing in Lean hashes anything: it is a label: what it is worth is what the hold of that sum in a sandbox is worth. -/
noncomputable def Ybaf.pinned : Pinned := { name := "ybulkktkfmt", sum := "5ff41934a6ce497961459946d393d4c9621089bd2faca7f8dc84ecaee4847148", checked := Ybaf.checked }
namespace Rows
def none {H : Type} : Left H := { results := [], args := [] }

/-- 'zonetext.LawS0569BPrintable': WHATEVER THE INPUT: true; the input reads as it did. -/
def lawS0569BPrintableSpec : ChangeSpec := { name := "lawS0569BPrintable", fn := fun _ => fun
  | [d] => { results := [.lit (.bool true)], args := [d] }
  | _ => none }
def lawS0569BPrintableRow : OpenClaim := { program := "ybulkktkfmt", sum := "5ff41934a6ce497961459946d393d4c9621089bd2faca7f8dc84ecaee4847148", func := "example.com/sigilwire/sigilwire/zonetext.LawS0569BPrintable", spec := "lawS0569BPrintable", stops := ["fmt.Sprintf"], inPlace := ["internal/abi.NoEscape", "fmt.Fprintf", "fmt.Sprintf"], unfollowed := true, recurses := true, apart := false }
/-- NO THEOREM (fmt's text is open here; it may be false): for the released tool's asking of the row's closed facts alone. THE STATEMENT IS 'LawS0569BPrintableToldSaid' (YbulkktkFmtCards.lean). -/
def LawS0569BPrintableFormAsk : Prop := lawS0569BPrintableRow.holds Ybaf.pinned (OpenSpec.ofChange lawS0569BPrintableSpec)

/-- ITS FALSE NEIGHBOUR: 'it returns false'. Refute it at one input. -/
def lawS0569BPrintableWrong : ChangeSpec := { name := "lawS0569BPrintable", fn := fun _ => fun
  | [d] => { results := [.lit (.bool false)], args := [d] }
  | _ => none }
def LawS0569BPrintableWrongFormAsk : Prop := lawS0569BPrintableRow.holds Ybaf.pinned (OpenSpec.ofChange lawS0569BPrintableWrong)

/-- 'zonetext.LawS0569BShape': WHATEVER THE INPUT: true; the input reads as it did. -/
def lawS0569BShapeSpec : ChangeSpec := { name := "lawS0569BShape", fn := fun _ => fun
  | [d] => { results := [.lit (.bool true)], args := [d] }
  | _ => none }
def lawS0569BShapeRow : OpenClaim := { program := "ybulkktkfmt", sum := "5ff41934a6ce497961459946d393d4c9621089bd2faca7f8dc84ecaee4847148", func := "example.com/sigilwire/sigilwire/zonetext.LawS0569BShape", spec := "lawS0569BShape", stops := ["fmt.Sprintf"], inPlace := ["internal/abi.NoEscape", "fmt.Fprintf", "fmt.Sprintf"], unfollowed := true, recurses := true, apart := false }
/-- NO THEOREM (fmt's text is open here; it may be false): for the released tool's asking of the row's closed facts alone. THE STATEMENT IS 'LawS0569BShapeToldSaid' (YbulkktkFmtCards.lean). -/
def LawS0569BShapeFormAsk : Prop := lawS0569BShapeRow.holds Ybaf.pinned (OpenSpec.ofChange lawS0569BShapeSpec)

/-- ITS FALSE NEIGHBOUR: 'it returns false'. Refute it at one input. -/
def lawS0569BShapeWrong : ChangeSpec := { name := "lawS0569BShape", fn := fun _ => fun
  | [d] => { results := [.lit (.bool false)], args := [d] }
  | _ => none }
def LawS0569BShapeWrongFormAsk : Prop := lawS0569BShapeRow.holds Ybaf.pinned (OpenSpec.ofChange lawS0569BShapeWrong)

end Rows
end Go.Proofs.YbulkktkFmt
