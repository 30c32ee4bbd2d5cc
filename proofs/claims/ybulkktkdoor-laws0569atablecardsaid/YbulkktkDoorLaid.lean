import Derived.Test.YbulkktkDoorWalks
import Derived.ProofKit
import Derived.LaidMore
import Derived.OpenShut
import Derived.OpenVars
import Derived.Stop.Joined
import Derived.Deep.Slices
import Derived.Deep.Strs
namespace Go.Proofs.YbulkktkDoor
open Go.ChangeShapes Go.WideShapes Go.ChangeAt Go.WideMaps Go.WideElems Go.RowKit

theorem own : ownKnob Ybad.prog.godebug = none := by kernel_rfl
theorem laidOut : laidOutB Ybad.prog = true := by kernel_rfl
theorem gT : Ybad.prog.globalNamed (Rows.lawS0569ATableSpec.vars.headD "") = some 0 := by kernel_rfl
theorem tT : (Ybad.prog.globals[0]?).map (·.type) = some 31 := by kernel_rfl
theorem c25 : Ybad.prog.cellsOf 25 = 3 := by kernel_rfl
theorem c22 : Ybad.prog.cellsOf 22 = 1 := by kernel_rfl
theorem c23 : Ybad.prog.cellsOf 23 = 1 := by kernel_rfl
theorem c4 : Ybad.prog.cellsOf 4 = 1 := by kernel_rfl

/-- One element of the table: three cells. -/
theorem elem_cells {W : World} {sp : Nat → Bool} {held : Bool} {b off n : Nat} {c v : Int} {s : Bool} {cs : List Value} {Pl : List MemPlace}
    (h : W.cells? 0 ⟨b, off, none⟩ 3 = some cs) (hd : DataW.trod (fun _ => ()) Ybad.prog W 0 sp held n 25 cs = some (.agg [.lit (.int .u16 c), .lit (.int .u8 v), .lit (.bool s)], Pl)) :
    W.cell? ⟨b, off, none⟩ = some (.int .u16 c) ∧ W.cell? ⟨b, off + 1, none⟩ = some (.int .u8 v) ∧ W.cell? ⟨b, off + 2, none⟩ = some (.bool s) := by
  obtain ⟨y0, y1, y2, m, hx, hl, h0, h1, h2⟩ := Go.Deep.trod_struct3 Ybad.underlying25 hd
  rw [c25] at hl
  match cs, hl with
  | [x0, x1, x2], _ =>
    simp only [c22, c23, c4, List.take, List.drop] at h0 h1 h2
    obtain ⟨a0, e0, f0, _⟩ := DataW.trod_int Ybad.underlying23 h0
    obtain ⟨a1, e1, f1, _⟩ := DataW.trod_int Ybad.underlying22 h1
    obtain ⟨a2, e2, f2⟩ := DataW.trod_bool Ybad.underlying4 h2
    simp only [f0, f1, f2, Prod.mk.injEq, DataW.agg.injEq, List.cons.injEq, DataW.lit.injEq, Lit.int.injEq, Lit.bool.injEq, true_and, and_true] at hx
    obtain ⟨⟨rfl, rfl, rfl⟩, _⟩ := hx
    simp only [List.cons.injEq, and_true] at e0 e1 e2
    subst e0 e1 e2
    obtain ⟨_, _, hc⟩ := World.cells?_some h
    have k0 := hc 0 (by omega)
    have k1 := hc 1 (by omega)
    have k2 := hc 2 (by omega)
    exact ⟨by simpa [Addr.add] using k0, by simpa [Addr.add] using k1, by simpa [Addr.add] using k2⟩

theorem of_laid {W : World} (h : laidMetH Ybad.prog Rows.lawS0569ATableRow.laid W) : ∃ b off cap, Tab W b off cap := by
  rw [MakeChecks.laidMetH_plain _ _ _ (by kernel_rfl)] at h
  obtain ⟨ps, ⟨g0, t0, cs0, f0, p0, q0, hg0, ht0, hv0, hd0, _, _⟩, _, _⟩ := h
  obtain rfl := Option.some.inj (gT.symm.trans hg0)
  obtain rfl := Option.some.inj (tT.symm.trans ht0)
  rcases Go.Deep.open_slice Ybad.underlying31 hd0 with ⟨_, hx⟩ | ⟨a, len, cap, m, n, D, Pl, hcs, _, hl, _, hm, hx, hel⟩
  · simp [Rows.laid_example_com_sigilwire_sigilwire_tsig_tsigErrors] at hx
  simp only [Prod.mk.injEq, Rows.laid_example_com_sigilwire_sigilwire_tsig_tsigErrors, DataW.slice.injEq] at hx
  obtain ⟨⟨hx1, hx2⟩, _⟩ := hx
  have hlen : len = 4 := by have := congrArg List.length hx1; simpa using this.symm
  subst hlen
  have hm4 : 4 ≤ m := by rw [hm]; simp; exact hl
  have e : List.range 4 = [0, 1, 2, 3] := rfl
  rw [e] at hx1
  simp only [List.map_cons, List.map_nil, List.cons.injEq, and_true] at hx1
  obtain ⟨d0, d1, d2, d3⟩ := hx1
  rw [c25] at hel
  obtain ⟨k0, r0, s0⟩ := hel 0 (by omega)
  obtain ⟨k1, r1, s1⟩ := hel 1 (by omega)
  obtain ⟨k2, r2, s2⟩ := hel 2 (by omega)
  obtain ⟨k3, r3, s3⟩ := hel 3 (by omega)
  have hcell : W.cell? ⟨0, 0, none⟩ = some (.slice (some a) 4 cap) := by
    have := World.var?_cell hg0 hv0 0
    rw [Array.eq_one_of_toList hcs] at this
    simpa using this
  rw [← d0] at s0
  rw [← d1] at s1
  rw [← d2] at s2
  rw [← d3] at s3
  obtain ⟨b, off, spot⟩ := a
  have hspot : spot = none := by
    obtain ⟨_, hln, hc⟩ := World.cells?_some r0
    have h0 := hc 0 (by omega)
    have h0' : W.cell? ⟨b, off, spot⟩ = some (k0[0]'(by omega)) := by
      rw [← List.getElem?_eq_getElem]
      simpa [Addr.add] using h0
    exact World.cell?_spot h0'
  subst hspot
  simp only [Addr.add] at r0 r1 r2 r3
  have z0 := elem_cells r0 s0
  have z1 := elem_cells r1 s1
  have z2 := elem_cells r2 s2
  have z3 := elem_cells r3 s3
  exact ⟨b, off, cap, hcell, z0.1, z0.2.1, z0.2.2, z1.1, z1.2.1, z1.2.2, z2.1, z2.2.1, z2.2.2, z3.1, z3.2.1, z3.2.2⟩

/-- The door's own heap meets the condition: three closed facts. -/
theorem door_met (os : Os) (args : Array Value) : laidMetH Ybad.prog Rows.lawS0569ATableRow.laid ((World.doorLaid Ybad.prog 400 os).forCall (fun _ _ => 0) ⟨#[], args, []⟩).memory :=
  laidMetH_of_parts3 (fuel := 8) (laidMet_of_run' 8 (by kernel_rfl) (by kernel_rfl)) (by kernel_rfl) (by kernel_rfl)
end Go.Proofs.YbulkktkDoor
