import Derived.Test.YbulkktkFmtPrint
import Derived.Test.YbulkktkFmtCards
import Derived.ProofKit
import Derived.ChangeSlices
import Derived.ChangeSame
import Derived.ChangeMaps5
import Derived.JoinedOf
import Derived.Carry
import Derived.OpenShut
import Derived.Stop.Joined
import Derived.Stop.JoinedAt
import Derived.Stop.Texts
import Derived.Stop.JoinedTold
import Derived.SizedLaws
import Derived.SevenToldRow
import Derived.Deep.Slices
namespace Go.Proofs.YbulkktkFmt.lawS0569BPrintable
open Go.ChangeShapes Go.WideShapes Go.ChangeAt Go.RowKit Go.Kit
open Go.Extern.Stop Go.Stop Go.Extern

theorem own : ownKnob Ybaf.prog.godebug = none := by kernel_rfl
theorem laidOut : laidOutB Ybaf.pinned.checked.prog = true := by kernel_rfl
theorem cells5 : Ybaf.prog.cellsOf 5 = 1 := by kernel_rfl
theorem cells23 : Ybaf.prog.cellsOf 23 = 1 := by kernel_rfl
/-- One slice of octets, read: its row. -/
theorem row_of {H : Type} {enc : TypeId × Value → H} {W : World} {sp : Nat → Bool} {held : Bool} {n : Nat} {v : Value} {y : DataW H × List MemPlace} (h : DataW.trod enc Ybaf.prog W 0 sp held n 23 [v] = some y) :
    ∃ (a : Option Addr) (l c : Nat) (zs : List Int), v = .slice a l c ∧ zs.length = l ∧ RowIn W a c zs := by
  rcases open_ints Ybaf.underlying23 Ybaf.underlying5 cells5 h with ⟨hcs, _⟩ | ⟨a, len, cap, zs, hcs, _, hl, hm, hz, _, hcell, hwz⟩
  · simp only [List.cons.injEq, and_true] at hcs
    exact ⟨none, 0, 0, [], hcs, rfl, by simp, by unfold maxLen; omega, fun z hz => by simp at hz, fun h => absurd rfl h⟩
  · simp only [List.cons.injEq, and_true] at hcs
    have hz' : len ≤ zs.length := by rw [hz]; split <;> omega
    have hl' : (zs.take len).length = len := by simp; omega
    refine ⟨some a, len, cap, zs.take len, hcs, hl', by omega, hm, fun z hzm => ?_, fun hne => ?_⟩
    · have := bounds_u8 (hwz z (List.mem_of_mem_take hzm))
      omega
    · have hpos : 0 < zs.length := by
        have := List.length_pos_iff.2 hne
        omega
      obtain ⟨b, off, rfl, hc⟩ := ints_at hcell hpos
      refine ⟨b, off, rfl, fun j hj => ?_⟩
      rw [hc j (by omega)]
      simp [List.getD, show j < len by omega]
theorem stops : Ybaf.pinned.checked.prog.stops = ["fmt.Sprintf"] := by kernel_rfl
theorem stopKnobs : Ybaf.pinned.checked.prog.stopKnobs = [] := by kernel_rfl
theorem quiet (os : Os) : Stop.quiet Ybaf.pinned.checked.prog os := by
  intro k hk
  rw [stopKnobs] at hk
  cases hk

set_option maxRecDepth 100000 in
theorem lifted (os : Os) (started : os.Started) (H : Type) (enc : TypeId × Value → H) :
    ReturnsInTold none {} Ybaf.checked os 3 .any Input.okWide ((OpenSpec.ofChange Rows.lawS0569BPrintableSpec).preRow enc Ybaf.prog Ybaf.f3 [] false []) (fun F => ((OpenSpec.ofChange Rows.lawS0569BPrintableSpec).at F).post enc Ybaf.prog Ybaf.f3 false true false false) (aloneAtReturn Ybaf.prog) nothingAlways := by
  refine returnsInTold_of_row (C := Ybaf.checked) (s := OpenSpec.ofChange Rows.lawS0569BPrintableSpec) (by kernel_rfl) own started (by kernel_rfl) Ybaf.func3
    (OpenSpec.witness_stopped (enc := enc) (C := Ybaf.checked) false ⟨#[], #[.slice none 0 0], []⟩ 8 (by kernel_rfl) (by kernel_rfl) (by kernel_rfl) (by kernel_rfl)) ?_
  intro F W base args ds gs before _ hF hval0 hW _ _ hsz _ _
  have hval : ∀ (j : Nat) t v, Ybaf.f3.params[j]? = some t → args[j]? = some v → Value.okWide Ybaf.prog W .any base t v := hval0
  have hW' := hW
  obtain ⟨p, q, hA0, hV, rfl, _, _⟩ := hW
  have hA : DataW.TrodAll enc Ybaf.prog W 0 (fun _ => true) true Ybaf.f3.params.toList args.toList ds p := hA0
  rw [Ybaf.params3] at hA hval
  obtain ⟨v0, d0, rfl, rfl, h0⟩ := trodAll_one hA
  obtain ⟨rfl, rfl⟩ := trodVars_none hV
  obtain ⟨a0, len, cap, rfl⟩ := okWide_slice Ybaf.underlying22 (hval 0 22 v0 rfl rfl)
  have h0k := h0
  obtain ⟨fuel, hf⟩ := h0
  clear hA0 hval0
  simp only [List.append_nil] at hW'
  have hlt : ∀ x ∈ p, x.block < W.heap.size := fun x hx => by simpa using hW'.lt x hx
  obtain ⟨A, C, Z, hmax, hin⟩ : ∃ (A : Nat → Option Addr) (C : Nat → Nat) (Z : Nat → List Int), len ≤ maxLen ∧ PartsIn W a0 len cap A C Z := by
    rcases Go.Deep.open_slice1 Ybaf.underlying22 cells23 hf with ⟨hcs, _⟩ | ⟨a, len', cap', m, n, V, D, Pl, hcs, _, hl, hm, hmm, _, hel⟩
    · simp [Value.cells] at hcs
      obtain ⟨rfl, rfl, rfl⟩ := hcs
      exact ⟨fun _ => none, fun _ => 0, fun _ => [], by unfold maxLen; omega, fun h => absurd h (by omega), fun j hj => absurd hj (by omega)⟩
    · simp [Value.cells] at hcs
      obtain ⟨rfl, rfl, rfl⟩ := hcs
      have hmm' : m = cap := by simpa using hmm
      have hrow : ∀ j, j < len → ∃ x : Option Addr × Nat × List Int, W.cell? (a.add j) = some (.slice x.1 x.2.2.length x.2.1) ∧ RowIn W x.1 x.2.1 x.2.2 := by
        intro j hj
        obtain ⟨hcj, hdj⟩ := hel j (by omega)
        obtain ⟨aj, lj, cj, zj, hv, hzl, hr⟩ := row_of hdj
        refine ⟨(aj, cj, zj), ?_, hr⟩
        rw [hcj, hv]
        simp only [hzl]
      obtain ⟨f, hfx⟩ := Go.Deep.choose_lt hrow
      refine ⟨fun j => (f j).1, fun j => (f j).2.1, fun j => (f j).2.2, by omega, fun hpos => ?_, fun j hj => (hfx j hj).2⟩
      obtain ⟨b, off, spot⟩ := a
      have hspot : spot = none := by simpa [Addr.add] using World.cell?_spot (hfx 0 hpos).1
      subst hspot
      refine ⟨b, off, rfl, fun j hj => ?_⟩
      have := (hfx j hj).1
      rwa [Go.WideShapes.add_plain] at this
  have hcall := print_any F len a0 cap A C Z W hin hF hmax
  refine hcall.mono fun e W' ⟨he, bel⟩ => ?_
  subst he
  exact ⟨_, rfl, _, _, _, [], p, [], hW', trodAll_mk1 (shut_bool Ybaf.underlying4 _), trodAll_mk1 (Below.trod laidOut (by kernel_rfl) (of_decide_eq_true (by kernel_rfl)) h0k bel hlt), rfl, bel.frame _, fun h => by cases h⟩

/-- THE TOLD CARD. -/
theorem proved : Rows.LawS0569BPrintableToldSaid :=
  Claim7.holds_of_told_any 3 Ybaf.f3 "fmt.Sprintf" [] [] Rows.lawS0569BPrintableCard.stood.harness false false (by kernel_rfl) rfl rfl rfl laidOut (by kernel_rfl) rfl ⟨rfl, rfl, rfl, rfl, rfl, rfl, rfl⟩ rfl rfl (by kernel_rfl) (by kernel_rfl) Ybaf.func3 (by kernel_rfl)
    (of_decide_eq_true (by kernel_rfl)) (of_decide_eq_true (by kernel_rfl)) stops.symm rfl stopKnobs.symm (by kernel_rfl)
    (by kernel_rfl) (by kernel_rfl) (by kernel_rfl) (by kernel_rfl) (by kernel_rfl) (by kernel_rfl) (by kernel_rfl) (by kernel_rfl) (by kernel_rfl) rfl (by kernel_rfl) rfl rfl
    rfl rfl
    rfl (by kernel_rfl) (by kernel_rfl) (by kernel_rfl) (by decide) (by kernel_rfl)
    (OpenClaim.moreEntering_of (by kernel_rfl) (by kernel_rfl) (by kernel_rfl) (by kernel_rfl) (by kernel_rfl) (by kernel_rfl) (by kernel_rfl) (by kernel_rfl) (by kernel_rfl) (by kernel_rfl))
    ⟨_, WideRow.started_initial, quiet _⟩
    (fun os started _ H enc _ => lifted os started H enc)
end Go.Proofs.YbulkktkFmt.lawS0569BPrintable
