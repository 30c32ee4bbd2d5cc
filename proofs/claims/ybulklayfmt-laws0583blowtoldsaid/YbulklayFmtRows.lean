/-
  NARROWER THAN 'FOR EVERY INPUT', by the rows' own cells (each row's printed sentence says how): LawS0583BLow: laid · LawS0583BHigh: laid.
  DERIVED. THE GIVEN ROWS OF THIS SEAT. 2 by the template 'for every input the law returns true; each argument reads behind the call as it read before'; 0 by the template 'total and deterministic' (their statements: YbulklayFmtTotals.lean).
  GIVEN WITH THE SEED: the statements are not yours to turn. If you find one false, say at which input.
  Laid BY PROGRAM, IN A SANDBOX (cutbox-rows.mjs): the forced cells as the released guide's own fill.sh prints them over the translation 71e5ffe5ad424d7d… (all of the seat's roots in one cut). By AI agents, Wed Nov 11 2026. No macro, syntax, notation, axiom, sorry.
-/
import Derived.Test.YbulklayFmtChecked
import GoSem.Claim
import GoSem.ClaimJoined
import GoSem.ClaimMapViews
import Derived.JoinedTies
import Derived.KernelRfl
namespace Go.Proofs.YbulklayFmt
/- THE CELL 'sum', in the pinned program and in every row, IS THE sha256 OF THE DUMP (.gsa) THAT YbulklayFmtProg.lean LOADS. Nothing in Lean hashes anything: it is a label: what it is worth is what the hold of that sum in a sandbox is worth. -/
noncomputable def Ybaf.pinned : Pinned := { name := "ybulklayfmt", sum := "71e5ffe5ad424d7d94dc54d28b1c19ad58d2ab7fd326d709203ca37843acdeb0", checked := Ybaf.checked }
namespace Rows
def none {H : Type} : Left H := { results := [], args := [] }

/- WHAT THE LISTED PACKAGE-LEVEL VARIABLES READ AS WHEN THE CALL BEGINS. Each datum BY PROGRAM (the guide's laid-datum.mjs) off the statement by which the dump's own 'gosem.cut.vars' lays the variable. In a bare row this is a premise. The card (YbulklayFmtCards.lean) ties it to the program's text. -/
def laid_example_com_stochast_stochast_node_resultNames {H : Type} : DataW H := .slice [.lit (.string [68, 101, 108, 105, 118, 101, 114, 105, 101, 115]), .lit (.string [68, 101, 99, 105, 115, 105, 111, 110, 115]), .lit (.string [86, 97, 108, 117, 101, 68, 101, 99, 105, 115, 105, 111, 110, 115]), .lit (.string [86, 101, 99, 116, 111, 114, 68, 101, 99, 105, 115, 105, 111, 110, 115]), .lit (.string [82, 101, 108, 105, 97, 98, 108, 101, 68, 101, 108, 105, 118, 101, 114, 105, 101, 115]), .lit (.string [69, 99, 104, 111, 68, 101, 108, 105, 118, 101, 114, 105, 101, 115])] []

/-- 'node.LawS0583BLow': WHATEVER THE INPUT: true; the input reads as it did. -/
def lawS0583BLowSpec : ChangeSpec := { name := "lawS0583BLow", vars := ["example.com/stochast/stochast/node.resultNames"], fn := fun _ => fun
  | [d, g1] => { results := [.lit (.bool true)], args := [d], vars := [g1] }
  | _ => none }
def lawS0583BLowRow : OpenClaim := { program := "ybulklayfmt", sum := "71e5ffe5ad424d7d94dc54d28b1c19ad58d2ab7fd326d709203ca37843acdeb0", func := "example.com/stochast/stochast/node.LawS0583BLow", spec := "lawS0583BLow", stops := ["fmt.Sprintf"], inPlace := ["fmt.Sprintf", "internal/abi.NoEscape", "internal/bytealg.MakeNoZero"], named := ["example.com/stochast/stochast/node.resultNames"], apart := false, laid := [("example.com/stochast/stochast/node.resultNames", laid_example_com_stochast_stochast_node_resultNames)] }
/-- NO THEOREM (fmt's text is open here; it may be false): for the released tool's asking of the row's closed facts alone. THE STATEMENT IS 'LawS0583BLowToldSaid' (YbulklayFmtCards.lean). -/
def LawS0583BLowFormAsk : Prop := lawS0583BLowRow.holds Ybaf.pinned (OpenSpec.ofChange lawS0583BLowSpec)

/-- ITS FALSE NEIGHBOUR: 'it returns false'. Refute it at one input. -/
def lawS0583BLowWrong : ChangeSpec := { name := "lawS0583BLow", vars := ["example.com/stochast/stochast/node.resultNames"], fn := fun _ => fun
  | [d, g1] => { results := [.lit (.bool false)], args := [d], vars := [g1] }
  | _ => none }
def LawS0583BLowWrongFormAsk : Prop := lawS0583BLowRow.holds Ybaf.pinned (OpenSpec.ofChange lawS0583BLowWrong)

/-- 'node.LawS0583BHigh': WHATEVER THE INPUT: true; the input reads as it did. -/
def lawS0583BHighSpec : ChangeSpec := { name := "lawS0583BHigh", vars := ["example.com/stochast/stochast/node.resultNames"], fn := fun _ => fun
  | [d1, d2, g1] => { results := [.lit (.bool true)], args := [d1, d2], vars := [g1] }
  | _ => none }
def lawS0583BHighRow : OpenClaim := { program := "ybulklayfmt", sum := "71e5ffe5ad424d7d94dc54d28b1c19ad58d2ab7fd326d709203ca37843acdeb0", func := "example.com/stochast/stochast/node.LawS0583BHigh", spec := "lawS0583BHigh", stops := ["fmt.Sprintf"], inPlace := ["fmt.Sprintf", "internal/abi.NoEscape", "internal/bytealg.MakeNoZero"], named := ["example.com/stochast/stochast/node.resultNames"], apart := false, laid := [("example.com/stochast/stochast/node.resultNames", laid_example_com_stochast_stochast_node_resultNames)] }
/-- NO THEOREM (fmt's text is open here; it may be false): for the released tool's asking of the row's closed facts alone. THE STATEMENT IS 'LawS0583BHighToldSaid' (YbulklayFmtCards.lean). -/
def LawS0583BHighFormAsk : Prop := lawS0583BHighRow.holds Ybaf.pinned (OpenSpec.ofChange lawS0583BHighSpec)

/-- ITS FALSE NEIGHBOUR: 'it returns false'. Refute it at one input. -/
def lawS0583BHighWrong : ChangeSpec := { name := "lawS0583BHigh", vars := ["example.com/stochast/stochast/node.resultNames"], fn := fun _ => fun
  | [d1, d2, g1] => { results := [.lit (.bool false)], args := [d1, d2], vars := [g1] }
  | _ => none }
def LawS0583BHighWrongFormAsk : Prop := lawS0583BHighRow.holds Ybaf.pinned (OpenSpec.ofChange lawS0583BHighWrong)

end Rows
end Go.Proofs.YbulklayFmt
