/-
  NARROWER THAN 'FOR EVERY INPUT', by the rows' own cells (each row's printed sentence says how): LawS0569ATable: laid · LawS0569AErrorCode: laid.
  DERIVED. THE GIVEN ROWS OF THIS SEAT. 2 by the template 'for every input the law returns true; each argument reads behind the call as it read before'; 0 by the template 'total and deterministic' (their statements: YbulkktkDoorTotals.lean).
  GIVEN WITH THE SEED: the statements are not yours to turn. If you find one false, say at which input.
  Laid BY PROGRAM, IN A SANDBOX (cutbox-rows.mjs): the forced cells as the released guide's own fill.sh prints them over the translation b643ed42610676f7… (all of the seat's roots in one cut). By AI agents, Wed Nov 11 2026. No macro, syntax, notation, axiom, sorry.
-/
import Derived.Test.YbulkktkDoorChecked
import GoSem.Claim
import GoSem.ClaimJoined
import GoSem.ClaimMapViews
import Derived.JoinedTies
import Derived.KernelRfl
namespace Go.Proofs.YbulkktkDoor
/- THE CELL 'sum', in the pinned program and in every row, IS THE sha256 OF THE DUMP (.gsa) THAT YbulkktkDoorProg.lean LOADS. Nothing in Lean hashes anything: it is a label: what it is worth is what the hold of that sum in a sandbox is worth. -/
noncomputable def Ybad.pinned : Pinned := { name := "ybulkktkdoor", sum := "b643ed42610676f7dcd8dc4015866d615d688b8c3c0bd8df1be5695b3f5d17e9", checked := Ybad.checked }
namespace Rows
def none {H : Type} : Left H := { results := [], args := [] }

/- WHAT THE LISTED PACKAGE-LEVEL VARIABLES READ AS WHEN THE CALL BEGINS. Each datum BY PROGRAM (the guide's laid-datum.mjs) off the statement by which the dump's own 'gosem.cut.vars' lays the variable. In a bare row this is a premise. The card (YbulkktkDoorCards.lean) ties it to the program's text. -/
def laid_example_com_sigilwire_sigilwire_tsig_tsigErrors {H : Type} : DataW H := .slice [.agg [.lit (.int .u16 16), .lit (.int .u8 2), .lit (.bool false)], .agg [.lit (.int .u16 17), .lit (.int .u8 3), .lit (.bool false)], .agg [.lit (.int .u16 18), .lit (.int .u8 4), .lit (.bool true)], .agg [.lit (.int .u16 22), .lit (.int .u8 5), .lit (.bool true)]] []

/-- 'tsig.LawS0569ATable': WHATEVER THE INPUT: true; the input reads as it did. -/
def lawS0569ATableSpec : ChangeSpec := { name := "lawS0569ATable", vars := ["example.com/sigilwire/sigilwire/tsig.tsigErrors"], fn := fun _ => fun
  | [d, g1] => { results := [.lit (.bool true)], args := [d], vars := [g1] }
  | _ => none }
def lawS0569ATableRow : OpenClaim := { program := "ybulkktkdoor", sum := "b643ed42610676f7dcd8dc4015866d615d688b8c3c0bd8df1be5695b3f5d17e9", func := "example.com/sigilwire/sigilwire/tsig.LawS0569ATable", spec := "lawS0569ATable", named := ["example.com/sigilwire/sigilwire/tsig.tsigErrors"], apart := false, laid := [("example.com/sigilwire/sigilwire/tsig.tsigErrors", laid_example_com_sigilwire_sigilwire_tsig_tsigErrors)] }
def LawS0569ATableSaid : Prop := lawS0569ATableRow.holds Ybad.pinned (OpenSpec.ofChange lawS0569ATableSpec)

/-- ITS FALSE NEIGHBOUR: 'it returns false'. Refute it at one input. -/
def lawS0569ATableWrong : ChangeSpec := { name := "lawS0569ATable", vars := ["example.com/sigilwire/sigilwire/tsig.tsigErrors"], fn := fun _ => fun
  | [d, g1] => { results := [.lit (.bool false)], args := [d], vars := [g1] }
  | _ => none }
def LawS0569ATableWrongFalsely : Prop := lawS0569ATableRow.holds Ybad.pinned (OpenSpec.ofChange lawS0569ATableWrong)

/-- 'tsig.LawS0569AErrorCode': WHATEVER THE INPUT: true; the input reads as it did. -/
def lawS0569AErrorCodeSpec : ChangeSpec := { name := "lawS0569AErrorCode", vars := ["example.com/sigilwire/sigilwire/tsig.tsigErrors"], fn := fun _ => fun
  | [d, g1] => { results := [.lit (.bool true)], args := [d], vars := [g1] }
  | _ => none }
def lawS0569AErrorCodeRow : OpenClaim := { program := "ybulkktkdoor", sum := "b643ed42610676f7dcd8dc4015866d615d688b8c3c0bd8df1be5695b3f5d17e9", func := "example.com/sigilwire/sigilwire/tsig.LawS0569AErrorCode", spec := "lawS0569AErrorCode", named := ["example.com/sigilwire/sigilwire/tsig.tsigErrors"], apart := false, laid := [("example.com/sigilwire/sigilwire/tsig.tsigErrors", laid_example_com_sigilwire_sigilwire_tsig_tsigErrors)] }
def LawS0569AErrorCodeSaid : Prop := lawS0569AErrorCodeRow.holds Ybad.pinned (OpenSpec.ofChange lawS0569AErrorCodeSpec)

/-- ITS FALSE NEIGHBOUR: 'it returns false'. Refute it at one input. -/
def lawS0569AErrorCodeWrong : ChangeSpec := { name := "lawS0569AErrorCode", vars := ["example.com/sigilwire/sigilwire/tsig.tsigErrors"], fn := fun _ => fun
  | [d, g1] => { results := [.lit (.bool false)], args := [d], vars := [g1] }
  | _ => none }
def LawS0569AErrorCodeWrongFalsely : Prop := lawS0569AErrorCodeRow.holds Ybad.pinned (OpenSpec.ofChange lawS0569AErrorCodeWrong)

end Rows
end Go.Proofs.YbulkktkDoor
