import Derived.Test.YbulklayFmtPlain
import Derived.Stop.CallBack
import Derived.Stop.IfaceNil
import Derived.Stop.FmtTextLaws
import Derived.Stop.FmtTextKit
import Derived.Stop.FmtTextWidths
import Derived.Stop.FmtTextBases
import Derived.Stop.Texts
import Derived.Stop.Told
import Derived.Stop.JoinedTold
import GoSem.ClaimData
import Derived.ProofKit
import Derived.OpenShut
namespace Go.Proofs.YbulklayFmt
open Go.RowKit Go.Kit Go.Extern.Stop Go.Stop Go.Extern
open Go.WideShapes Go.ChangeShapes

theorem call8 (args : Array Value) (w : World) : (callFunc 8 args).run Ybaf.prog w = ((FmtStop.sprintf #[9, 60] #[9] args).run Ybaf.prog w).andThen fun v w' => .ok (.value v) w' :=
  run_callFunc_extern Ybaf.func8 (by kernel_rfl) (by kernel_rfl) (by kernel_rfl) (by kernel_rfl) args w
theorem guard (name : String) (w : World) : (FmtStop.guard name).run Ybaf.prog w = .ok () w := by kernel_rfl
theorem fmt0 : FmtStop.printed? ⟨#[82, 101, 115, 117, 108, 116, 115, 40, 37, 35, 120, 41]⟩ 1 = some [(0, 120, true)] := by kernel_rfl
theorem fmt0r (w : World) : (FmtDoors.printed ⟨#[82, 101, 115, 117, 108, 116, 115, 40, 37, 35, 120, 41]⟩ 1).run Ybaf.prog w = .ok [(0, 120, true)] w := by kernel_rfl
theorem fmt0t : (FmtText.parse [82, 101, 115, 117, 108, 116, 115, 40, 37, 35, 120, 41]).map FmtText.glue = some [.lit [82, 101, 115, 117, 108, 116, 115, 40], .verb { sharp := true } 120, .lit [41]] := by rfl
def shape22 : List UInt8 := [9, 4, 0, 0, 0, 0, 0, 0, 0, 117, 105, 110, 116]
theorem op22 (name : String) (x : Int) (w : World) : (FmtStop.operand name false 120 true (.iface 22 (.int .u64 x))).run Ybaf.prog w = .ok (shape22, Go.Extern.Stop.digits 8 (x % 2 ^ 64).toNat) w := by kernel_rfl

/-- The bits beyond the six, in the walk's own form. -/
def rs (r : Int) : Int := bits BinOp.andNot IntKind.u64 r 63
/-- WHAT fmt IS ASKED. -/
def rd (x : Int) : List (List UInt8) := [[82, 101, 115, 117, 108, 116, 115, 40, 37, 35, 120, 41], shape22, digits 8 (x % 18446744073709551616).toNat]
/-- What it says. -/
def said (x : Int) : List UInt8 := [82, 101, 115, 117, 108, 116, 115, 40, 48, 120] ++ FmtText.numeral 16 false x.toNat ++ [41]
theorem said_len (x : Int) : (said x).length ≤ 75 := by
  have := FmtText.numeral_length_le 16 false x.toNat
  simp only [said, List.length_append, List.length_cons, List.length_nil]
  omega
theorem sharp_x (u : Nat) : FmtText.fmtInteger { sharp := true } u 16 false 120 false = [48, 120] ++ FmtText.numeral 16 false u := by
  simp [FmtText.fmtInteger, FmtText.pad]
theorem rd_text (x : Int) (hw : (Lit.int .u64 x).wf = true) : FmtText.text "fmt.Sprintf" (rd x) = some (said x) := by
  have hi := FmtText.operand_int_at (sh := shape22) (k := .u64) rfl rfl x hw
  have hb := bounds_u64 hw
  have e : (x % 18446744073709551616).toNat = x.toNat := by omega
  rw [rd, FmtText.text_sprintf_glued fmt0t (FmtText.operands_cons hi FmtText.operands_nil)]
  simp [FmtText.render, FmtText.printArg, FmtText.scalarArg, FmtText.fits, e, sharp_x, said, IntKind.signed]

/-- What F.told answers. -/
def tx (F : Interp) (x : Int) : ByteArray := FmtStop.textOf (F "fmt.Sprintf" (rd x) 0)
theorem tx_told (F : Interp) (x : Int) (hw : (Lit.int .u64 x).wf = true) : (tx F.told x).data.toList = said x := by
  unfold tx
  rw [textOf_list]
  exact told_string F (rd_text x hw) (by have := said_len x; omega)
end Go.Proofs.YbulklayFmt
