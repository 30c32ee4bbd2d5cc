import Derived.Test.YbulkktkFmtBuilder
import Derived.Test.YbulkktkFmtPlain
import Derived.Stop.CallBack
import Derived.Stop.IfaceNil
import Derived.Stop.FmtTextLaws
import Derived.Stop.FmtTextKit
import Derived.Stop.FmtTextWidths
import Derived.Stop.Texts
import Derived.Stop.Told
import Derived.Stop.JoinedTold
import Derived.Laws.IdiomStrings
import Derived.Lib.BufferWrite
import GoSem.ClaimData
namespace Go.Proofs.YbulkktkFmt
open Go.RowKit Go.Kit Go.Extern.Stop Go.Stop Go.Extern
open Plain (esc3 esc3_len)

theorem call12 (args : Array Value) (w : World) : (callFunc 12 args).run Ybaf.prog w = ((FmtStop.sprintf #[9, 41] #[9] args).run Ybaf.prog w).andThen fun v w' => .ok (.value v) w' :=
  run_callFunc_extern Ybaf.func12 (by kernel_rfl) (by kernel_rfl) (by kernel_rfl) (by kernel_rfl) args w
theorem guard (name : String) (w : World) : (FmtStop.guard name).run Ybaf.prog w = .ok () w := by kernel_rfl
theorem fmt0 : FmtStop.printed? ⟨#[92, 37, 48, 51, 100]⟩ 1 = some [(0, 100, false)] := by kernel_rfl
theorem fmt0r (w : World) : (FmtDoors.printed ⟨#[92, 37, 48, 51, 100]⟩ 1).run Ybaf.prog w = .ok [(0, 100, false)] w := by kernel_rfl
theorem fmt0t : (FmtText.parse [92, 37, 48, 51, 100]).map FmtText.glue = some [.lit [92], .verb { widPresent := true, wid := 3, zero := true } 100] := by rfl
def shape5 : List UInt8 := [6, 5, 0, 0, 0, 0, 0, 0, 0, 117, 105, 110, 116, 56]
theorem op5_100 (name : String) (x : Int) (w : World) : (FmtStop.operand name false 100 false (.iface 5 (.int .u8 x))).run Ybaf.prog w = .ok (shape5, Go.Extern.Stop.digits 8 (x % 2 ^ 64).toNat) w := by kernel_rfl

/-- WHAT fmt IS ASKED. -/
def rd (c : Int) : List (List UInt8) := [[92, 37, 48, 51, 100], shape5, digits 8 (c % 18446744073709551616).toNat]
theorem rd_text (c : Int) (hw : (Lit.int .u8 c).wf = true) : FmtText.text "fmt.Sprintf" (rd c) = some (esc3 c) := by
  have hi := FmtText.operand_int_at (sh := shape5) (k := .u8) rfl rfl c hw
  rw [rd, FmtText.text_sprintf_glued fmt0t (FmtText.operands_cons hi FmtText.operands_nil)]
  simp [FmtText.render, FmtText.printArg_d_zero _ 3 _ hw, esc3]

/-- What F.told answers. -/
def tx (F : Interp) (c : Int) : ByteArray := FmtStop.textOf (F "fmt.Sprintf" (rd c) 0)
theorem tx_told (F : Interp) (c : Int) (hw : (Lit.int .u8 c).wf = true) (h0 : 0 ≤ c) (h1 : c < 256) : (tx F.told c).data.toList = esc3 c := by
  unfold tx
  rw [textOf_list]
  exact told_string F (rd_text c hw) (by rw [esc3_len c h0 h1]; decide)

/-- THE WORLD IN WHICH Fprintf CALLS Write. -/
def atWrite (w : World) (ops : Array Value) (s : ByteArray) (cap : Nat) : World :=
  ((w.alloc (.cells ops 20)).alloc (.cells (bytesRow s cap) 5 ((bytesRow s cap).size, (bytesRow s cap).size + 1))).drew.drew
theorem atWrite_below (B : Nat) (w : World) (ops : Array Value) (s : ByteArray) (cap : Nat) (h : B ≤ w.heap.size) : Below B w (atWrite w ops s cap) :=
  ((((Below.refl _ w).alloc h _).alloc (by simp; omega) _).drew).drew
theorem atWrite_size (w : World) (ops : Array Value) (s : ByteArray) (cap : Nat) : (atWrite w ops s cap).heap.size = w.heap.size + 2 := by simp [atWrite]
theorem atWrite_bytes (w : World) (ops : Array Value) (s : ByteArray) (cap : Nat) (j : Nat) (hj : j < s.data.size) : (atWrite w ops s cap).cell? ⟨w.heap.size + 1, 0 + j, none⟩ = some (.int .u8 (s.data[j].toNat : Int)) := by
  have hsz : (w.alloc (.cells ops 20)).heap.size = w.heap.size + 1 := by simp
  show ((w.alloc (.cells ops 20)).alloc _).cell? _ = _
  rw [← hsz, Nat.zero_add, World.cell?_alloc_mark, bytesRow_at s _ j hj]
theorem atWrite_builder {B b : Nat} {bs : List Value} {w : World} (h : Lib.IsBuilderF 31 5 B b bs w) (ops : Array Value) (s : ByteArray) (cap : Nat) : Lib.IsBuilderF 31 5 B b bs (atWrite w ops s cap) :=
  show Lib.IsBuilderF 31 5 B b bs ((w.alloc (.cells ops 20)).alloc _) from (h.alloc _).alloc _
theorem isBuilder_lt {B b : Nat} {bs : List Value} {w : World} (h : Lib.IsBuilderF 31 5 B b bs w) : b < w.heap.size := h.elim (·.lt) (·.lt)

set_option maxHeartbeats 1000000 in
set_option maxRecDepth 100000 in
/-- fmt.Fprintf(&s, FORMAT, c) onto the builder: the builder holds the text's bytes more. -/
theorem fprintf_calls (F : Interp) (B b : Nat) (bs : List Value) (c : Int) (w : World) (h : Lib.IsBuilderF 31 5 B b bs w) (hF : F.answers w.tape) (htx : (tx F c).data.toList = esc3 c) (h4 : (esc3 c).length = 4) (hlen : bs.length + 4 ≤ 140737488355328) (hBw : B ≤ w.heap.size) :
    Calls Ybaf.prog 9 #[.iface 29 (.pointer (some ⟨b, 0, none⟩)), .string ⟨#[92, 37, 48, 51, 100]⟩, .slice (some ⟨w.heap.size, 0, none⟩) 1 1] (w.alloc (.cells #[.iface 5 (.int .u8 c)] 20)) fun e w' =>
      e = .returned (.tuple #[.int .i64 4, .nilIface]) ∧ Lib.IsBuilderF 31 5 B b (bs ++ Lib.byteCells (esc3 c)) w' ∧ Below B w w' := by
  have hF' := answers_open hF
  have k1 := call12
  have k2 := guard
  have k3 := fmt0r
  have k5 := fmt0
  have k4 := op5_100
  have hcv2 := fun w s => run_bytes_of_string (P := Ybaf.prog) w 9 23 5 s Ybaf.underlying9 Ybaf.underlying23 Ybaf.underlying5
  have hm : ∀ w : World, (method 160 29 (.pointer (some ⟨b, 0, none⟩)) "Write").run Ybaf.prog w = .ok (30, .pointer (some ⟨b, 0, none⟩)) w := fun _ => by kernel_rfl
  have HI : Hid (Lib.IsBuilderF 31 5 B b bs w) := h
  have HX : Hid ((tx F c).data.toList = esc3 c) := htx
  have H4 : Hid ((esc3 c).length = 4) := h4
  clear h htx h4
  go_enter Ybaf.func9, Ybaf.ntmps9
  go_wp2_with fail
  have hs : FmtStop.textOf (F "fmt.Sprintf" [[92, 37, 48, 51, 100], shape5, digits 8 (c % 18446744073709551616).toNat] 0) = tx F c := rfl
  rw [hs]
  have hsl := HX.out
  clear hs HX
  generalize tx F c = s at *
  generalize grownCap (w.alloc (.cells #[.iface 5 (.int .u8 c)] 20)).drew s.size 0 5 = cap
  have hsz : s.size = 4 := by
    have e : s.data.toList.length = s.size := by rw [Array.length_toList]; rfl
    rw [← e, hsl]; exact H4.out
  rw [hsz]
  clear k1 k2 k3 k4 k5 hcv2 hm hF'
  refine (write_calls B b bs ⟨w.heap.size + 1, 0, none⟩ 4 cap (Lib.byteCells (esc3 c)) (atWrite w #[.iface 5 (.int .u8 c)] s cap) (atWrite_builder HI.out _ _ _) ?_ ?_ ?_ ?_ ?_ ?_).mono ?_
  · rw [Lib.byteCells_length]; exact H4.out
  · intro j u hj
    rw [← hsl] at hj
    simp only [Lib.byteCells, List.getElem?_map, Option.map_eq_some_iff] at hj
    obtain ⟨x, hx, rfl⟩ := hj
    obtain ⟨hjl, hjx⟩ := List.getElem?_eq_some_iff.1 hx
    rw [Addr.add_lit, atWrite_bytes _ _ _ _ j (by simpa using hjl)]
    simp only [Array.getElem_toList] at hjx
    rw [hjx]
  · have := isBuilder_lt HI.out
    show w.heap.size + 1 ≠ b
    omega
  · exact Lib.byteCells_one _
  · exact hlen
  · rw [atWrite_size]; omega
  rintro e w2 ⟨rfl, h2, b2⟩
  have HR : Hid (Lib.IsBuilderF 31 5 B b (bs ++ Lib.byteCells (esc3 c)) w2) := h2
  have HB : Hid (Below B w w2) := (atWrite_below B w _ s cap hBw).trans b2
  clear h2 b2
  go_wp2
  go_ret2
  exact ⟨rfl, HR.out, HB.out⟩
end Go.Proofs.YbulkktkFmt
