import Derived.Test.YbulklayFmtStr
import Derived.ProofKit
import Derived.LaidMore
import Derived.OpenShut
import Derived.OpenVars
import Derived.Stop.Joined
import Derived.Deep.Slices
import Derived.Deep.Strs
namespace Go.Proofs.YbulklayFmt
open Go.ChangeShapes Go.WideShapes Go.ChangeAt Go.WideMaps Go.WideElems Go.RowKit

theorem own : ownKnob Ybaf.prog.godebug = none := by kernel_rfl
theorem laidOut : laidOutB Ybaf.pinned.checked.prog = true := by kernel_rfl
theorem gT : Ybaf.prog.globalNamed (Rows.lawS0583BLowSpec.vars.headD "") = some 0 := by kernel_rfl
theorem tT : (Ybaf.prog.globals[0]?).map (·.type) = some 29 := by kernel_rfl
theorem c9 : Ybaf.prog.cellsOf 9 = 1 := by kernel_rfl
theorem ba_of_list {s : ByteArray} {l : List UInt8} (h : s.data.toList = l) : s = ⟨l.toArray⟩ := by rw [← h, Lib.mk_data]

theorem str_cell {W : World} {sp : Nat → Bool} {held : Bool} {n : Nat} {v : Value} {l : List UInt8} {Pl : List MemPlace} (hd : DataW.trod (fun _ => ()) Ybaf.prog W 0 sp held n 9 [v] = some (.lit (.string l), Pl)) : v = .string ⟨l.toArray⟩ := by
  obtain ⟨s, hc, hy, _⟩ := DataW.trod_string Ybaf.underlying9 hd
  simp only [List.cons.injEq, and_true] at hc
  simp only [Prod.mk.injEq, DataW.lit.injEq, Lit.string.injEq] at hy
  rw [hc, ba_of_list hy.1.symm]

theorem of_laid {W : World} (h : laidMetH Ybaf.prog Rows.lawS0583BLowRow.laid W) : ∃ b off cap, Names W b off cap := by
  rw [MakeChecks.laidMetH_plain _ _ _ (by kernel_rfl)] at h
  obtain ⟨ps, ⟨g0, t0, cs0, f0, p0, q0, hg0, ht0, hv0, hd0, _, _⟩, _, _⟩ := h
  obtain rfl := Option.some.inj (gT.symm.trans hg0)
  obtain rfl := Option.some.inj (tT.symm.trans ht0)
  rcases Go.Deep.open_slice1 Ybaf.underlying29 c9 hd0 with ⟨_, hx⟩ | ⟨a, len, cap, m, n, V, D, Pl, hcs, _, hl, _, hm, hx, hel⟩
  · simp [Rows.laid_example_com_stochast_stochast_node_resultNames] at hx
  simp only [Prod.mk.injEq, Rows.laid_example_com_stochast_stochast_node_resultNames, DataW.slice.injEq] at hx
  obtain ⟨⟨hx1, hx2⟩, _⟩ := hx
  have hlen : len = 6 := by have := congrArg List.length hx1; simpa using this.symm
  subst hlen
  have hm6 : 6 ≤ m := by rw [hm]; simp; exact hl
  have e : List.range 6 = [0, 1, 2, 3, 4, 5] := rfl
  rw [e] at hx1
  simp only [List.map_cons, List.map_nil, List.cons.injEq, and_true] at hx1
  obtain ⟨d0, d1, d2, d3, d4, d5⟩ := hx1
  have hcell : W.cell? ⟨0, 0, none⟩ = some (.slice (some a) 6 cap) := by
    have := World.var?_cell hg0 hv0 0
    rw [Array.eq_one_of_toList hcs] at this
    simpa using this
  have hc : ∀ k, k < 6 → W.cell? (a.add k) = some (.string (nameB k)) := by
    intro k hk
    obtain ⟨r, s⟩ := hel k (by omega)
    rw [r]
    rcases (show k = 0 ∨ k = 1 ∨ k = 2 ∨ k = 3 ∨ k = 4 ∨ k = 5 by omega) with rfl | rfl | rfl | rfl | rfl | rfl
    · rw [← d0] at s; rw [str_cell s]; rfl
    · rw [← d1] at s; rw [str_cell s]; rfl
    · rw [← d2] at s; rw [str_cell s]; rfl
    · rw [← d3] at s; rw [str_cell s]; rfl
    · rw [← d4] at s; rw [str_cell s]; rfl
    · rw [← d5] at s; rw [str_cell s]; rfl
  obtain ⟨b, off, spot⟩ := a
  have hspot : spot = none := by simpa [Addr.add] using World.cell?_spot (hc 0 (by omega))
  subst hspot
  refine ⟨b, off, cap, hcell, fun k hk => ?_⟩
  rw [← Addr.add_lit]
  exact hc k hk

/-- The door's own heap meets the condition: three closed facts. -/
theorem door_met (os : Os) (args : Array Value) : laidMetH Ybaf.prog Rows.lawS0583BLowRow.laid ((World.doorLaid Ybaf.prog 400 os).forCall (fun _ _ => 0) ⟨#[], args, []⟩).memory :=
  laidMetH_of_parts3 (fuel := 8) (laidMet_of_run' 8 (by kernel_rfl) (by kernel_rfl)) (by kernel_rfl) (by kernel_rfl)
theorem stops : Ybaf.pinned.checked.prog.stops = ["fmt.Sprintf"] := by kernel_rfl
theorem stopKnobs : Ybaf.pinned.checked.prog.stopKnobs = [] := by kernel_rfl
theorem quiet (os : Os) : Stop.quiet Ybaf.pinned.checked.prog os := by
  intro k hk
  rw [stopKnobs] at hk
  cases hk
end Go.Proofs.YbulklayFmt
