/-
  No cell of these rows narrows 'for every input' (looked for: loops, veiled, ifaces, maps, wideKeys, modest, calm, conditions, laid).
  DERIVED. THE GIVEN ROWS OF THIS SEAT. 2 by the template 'for every input the law returns true; each argument reads behind the call as it read before'; 0 by the template 'total and deterministic' (their statements: YbulklayTotals.lean).
  GIVEN WITH THE SEED: the statements are not yours to turn. If you find one false, say at which input.
  Laid BY PROGRAM, IN A SANDBOX (cutbox-rows.mjs): the forced cells as the released guide's own fill.sh prints them over the translation 6b94370ee24f30db… (all of the seat's roots in one cut). By AI agents, Wed Nov 11 2026. No macro, syntax, notation, axiom, sorry.
-/
import Derived.Test.YbulklayChecked
import GoSem.Claim
import GoSem.ClaimJoined
import GoSem.ClaimMapViews
import Derived.JoinedTies
import Derived.KernelRfl
namespace Go.Proofs.Ybulklay
/- THE CELL 'sum', in the pinned program and in every row, IS THE sha256 OF THE DUMP (.gsa) THAT YbulklayProg.lean LOADS. Nothing in Lean hashes anything: it is a label: what it is worth is what the hold of that sum in a sandbox is worth. -/
noncomputable def Yba.pinned : Pinned := { name := "ybulklay", sum := "6b94370ee24f30dbfddc7263fa5cafaf34d266b186c709bad70be12cc4d49900", checked := Yba.checked }
namespace Rows
def none {H : Type} : Left H := { results := [], args := [] }

/-- 'node.LawS0583ASingle': WHATEVER THE INPUT: true; the input reads as it did. -/
def lawS0583ASingleSpec : ChangeSpec := { name := "lawS0583ASingle", fn := fun _ => fun
  | [d1, d2, d3, d4, d5, d6, d7, d8, d9] => { results := [.lit (.bool true)], args := [d1, d2, d3, d4, d5, d6, d7, d8, d9] }
  | _ => none }
def lawS0583ASingleRow : OpenClaim := { program := "ybulklay", sum := "6b94370ee24f30dbfddc7263fa5cafaf34d266b186c709bad70be12cc4d49900", func := "example.com/stochast/stochast/node.LawS0583ASingle", spec := "lawS0583ASingle", unfollowed := true, recurses := true, named := ["encoding/binary.BigEndian"], plainKeys := false, apart := false }
def LawS0583ASingleSaid : Prop := lawS0583ASingleRow.holds Yba.pinned (OpenSpec.ofChange lawS0583ASingleSpec)

/-- ITS FALSE NEIGHBOUR: 'it returns false'. Refute it at one input. -/
def lawS0583ASingleWrong : ChangeSpec := { name := "lawS0583ASingle", fn := fun _ => fun
  | [d1, d2, d3, d4, d5, d6, d7, d8, d9] => { results := [.lit (.bool false)], args := [d1, d2, d3, d4, d5, d6, d7, d8, d9] }
  | _ => none }
def LawS0583ASingleWrongFalsely : Prop := lawS0583ASingleRow.holds Yba.pinned (OpenSpec.ofChange lawS0583ASingleWrong)

/-- 'node.LawS0583AScript': WHATEVER THE INPUT: true; the input reads as it did. -/
def lawS0583AScriptSpec : ChangeSpec := { name := "lawS0583AScript", fn := fun _ => fun
  | [d] => { results := [.lit (.bool true)], args := [d] }
  | _ => none }
def lawS0583AScriptRow : OpenClaim := { program := "ybulklay", sum := "6b94370ee24f30dbfddc7263fa5cafaf34d266b186c709bad70be12cc4d49900", func := "example.com/stochast/stochast/node.LawS0583AScript", spec := "lawS0583AScript", unfollowed := true, recurses := true, named := ["encoding/binary.BigEndian"], plainKeys := false, apart := false }
def LawS0583AScriptSaid : Prop := lawS0583AScriptRow.holds Yba.pinned (OpenSpec.ofChange lawS0583AScriptSpec)

/-- ITS FALSE NEIGHBOUR: 'it returns false'. Refute it at one input. -/
def lawS0583AScriptWrong : ChangeSpec := { name := "lawS0583AScript", fn := fun _ => fun
  | [d] => { results := [.lit (.bool false)], args := [d] }
  | _ => none }
def LawS0583AScriptWrongFalsely : Prop := lawS0583AScriptRow.holds Yba.pinned (OpenSpec.ofChange lawS0583AScriptWrong)

end Rows
end Go.Proofs.Ybulklay
