import Derived.Test.YbulklayRows
import Derived.Test.YbulklayScriptD
import Derived.WalkKit
import Derived.ProofKit
import Derived.OpenShut
import Derived.ShutString
import Derived.ChangeOld
import Derived.Below
import Derived.Deep.Slices
import Derived.Deep.Strs
namespace Go.Proofs.Ybulklay.lawS0583AScript
open Go.ChangeShapes Go.WideShapes Go.ChangeAt Go.RowKit
set_option linter.unusedVariables false

theorem own : ownKnob Yba.prog.godebug = none := by kernel_rfl
theorem laidOut : laidOutB Yba.prog = true := by kernel_rfl
theorem cells5 : Yba.prog.cellsOf 5 = 1 := by kernel_rfl
theorem cells22 : Yba.prog.cellsOf 22 = 1 := by kernel_rfl
theorem cells23 : Yba.prog.cellsOf 23 = 1 := by kernel_rfl
theorem cells53 : Yba.prog.cellsOf 53 = 3 := by kernel_rfl

/-- One slice of octets, read: its row. -/
theorem row_of {H : Type} {enc : TypeId × Value → H} {W : World} {sp : Nat → Bool} {held : Bool} {n : Nat} {v : Value} {y : DataW H × List MemPlace} (h : DataW.trod enc Yba.prog W 0 sp held n 23 [v] = some y) :
    ∃ (a : Option Addr) (c : Nat) (zs : List Int), v = .slice a zs.length c ∧ RowIn W a c zs := by
  rcases open_ints Yba.underlying23 Yba.underlying5 cells5 h with ⟨hcs, _⟩ | ⟨a, len, cap, zs, hcs, _, hl, hm, hz, _, hcell, hwz⟩
  · simp only [List.cons.injEq, and_true] at hcs
    exact ⟨none, 0, [], hcs, ⟨by simp, by unfold maxLen; omega, fun z hz => by simp at hz, .inl ⟨rfl, rfl, rfl⟩⟩⟩
  · simp only [List.cons.injEq, and_true] at hcs
    have hz' : len ≤ zs.length := by rw [hz]; split <;> omega
    have hl' : (zs.take len).length = len := by simp; omega
    refine ⟨some a, cap, zs.take len, by rw [hl']; exact hcs, ⟨by omega, hm, fun z hzm => ?_, .inr ⟨a, rfl, fun j hj => ?_⟩⟩⟩
    · have := bounds_u8 (hwz z (List.mem_of_mem_take hzm))
      omega
    · rw [hcell j (by omega)]
      simp [List.getD, show j < len by omega]

/-- One step, read: its three cells. -/
theorem elem {H : Type} {enc : TypeId × Value → H} {W : World} {sp : Nat → Bool} {held : Bool} {b off n : Nat} {cs : List Value} {y : DataW H × List MemPlace}
    (h : W.cells? 0 ⟨b, off, none⟩ 3 = some cs) (hd : DataW.trod enc Yba.prog W 0 sp held n 53 cs = some y) :
    ∃ s : Step, W.cell? ⟨b, off, none⟩ = some (.int .u8 s.p) ∧ W.cell? ⟨b, off + 1, none⟩ = some (.int .u64 s.n) ∧ W.cell? ⟨b, off + 2, none⟩ = some s.val ∧ (0 ≤ s.p ∧ s.p < 256) ∧ (0 ≤ s.n ∧ s.n < 18446744073709551616) ∧ RowIn W s.a s.c s.z := by
  obtain ⟨y0, y1, y2, m, hx, hl, h0, h1, h2⟩ := Go.Deep.trod_struct3 Yba.underlying53 hd
  rw [cells53] at hl
  match cs, hl with
  | [x0, x1, x2], _ =>
    simp only [cells5, cells22, cells23, List.take, List.drop] at h0 h1 h2
    obtain ⟨a0, e0, f0, g0⟩ := DataW.trod_int Yba.underlying5 h0
    obtain ⟨a1, e1, f1, g1⟩ := DataW.trod_int Yba.underlying22 h1
    obtain ⟨a, c, zs, e2, hr⟩ := row_of h2
    simp only [List.cons.injEq, and_true] at e0 e1
    subst e0 e1 e2
    obtain ⟨_, _, hc⟩ := World.cells?_some h
    have k0 := hc 0 (by omega)
    have k1 := hc 1 (by omega)
    have k2 := hc 2 (by omega)
    have b0 := bounds_u8 g0
    have b1 := bounds_u64 g1
    exact ⟨⟨a0, a1, a, c, zs⟩, by simpa [Addr.add] using k0, by simpa [Addr.add] using k1, by simpa [Addr.add, Step.val] using k2, ⟨b0.1, by show a0 < 256; omega⟩, ⟨b1.1, by show a1 < 18446744073709551616; omega⟩, hr⟩

theorem list_of {P : Nat → Step → Prop} : ∀ n, (∀ i, i < n → ∃ s, P i s) → ∃ ss : List Step, ss.length = n ∧ ∀ i s, ss[i]? = some s → P i s
  | 0, _ => ⟨[], rfl, by simp⟩
  | n + 1, h => by
    obtain ⟨ss, e, hs⟩ := list_of n (fun i hi => h i (by omega))
    obtain ⟨t, ht⟩ := h n (by omega)
    refine ⟨ss ++ [t], by simp [e], fun i s hi => ?_⟩
    by_cases hin : i < n
    · rw [List.getElem?_append_left (by omega)] at hi
      exact hs i s hi
    · have hlt := (List.getElem?_eq_some_iff.1 hi).1
      simp [e] at hlt
      obtain rfl : i = n := by omega
      rw [List.getElem?_append_right (by omega)] at hi
      simp [e] at hi
      subst hi
      exact ht

/-- The argument, read: the steps as the walk wants them. -/
theorem ins_of {H : Type} {enc : TypeId × Value → H} {W : World} {sp : Nat → Bool} {held : Bool} {n len cap : Nat} {a : Option Addr} {y : DataW H × List MemPlace} (h : DataW.trod enc Yba.prog W 0 sp held n 51 [.slice a len cap] = some y) :
    len ≤ maxLen ∧ ∃ ss : List Step, ss.length = len ∧ Ins W a ss := by
  rcases Go.Deep.open_slice Yba.underlying51 h with ⟨hcs, _⟩ | ⟨x, l, c, m, k, D, Pl, hcs, _, hl, hcm, hm, _, hel⟩
  · simp only [List.cons.injEq, Value.slice.injEq, and_true] at hcs
    obtain ⟨rfl, rfl, rfl⟩ := hcs
    exact ⟨by simp, [], rfl, ⟨by simp, by simp, by simp, by simp⟩⟩
  · simp only [List.cons.injEq, Value.slice.injEq, and_true] at hcs
    obtain ⟨rfl, rfl, rfl⟩ := hcs
    refine ⟨by omega, ?_⟩
    rw [cells53] at hel
    have hlm : len ≤ m := by rw [hm]; split <;> omega
    by_cases h0 : len = 0
    · subst h0
      exact ⟨[], rfl, ⟨by simp, by simp, by simp, by simp⟩⟩
    obtain ⟨b, off, spot⟩ := x
    have hspot : spot = none := by
      obtain ⟨k0, r0, s0⟩ := hel 0 (by omega)
      obtain ⟨_, hln, hc⟩ := World.cells?_some r0
      have h0 := hc 0 (by omega)
      have h0' : W.cell? ⟨b, off, spot⟩ = some (k0[0]'(by omega)) := by
        rw [← List.getElem?_eq_getElem]
        simpa [Addr.add] using h0
      exact World.cell?_spot h0'
    subst hspot
    obtain ⟨ss, e, hs⟩ := list_of (P := fun i s => W.cell? ⟨b, off + i * 3, none⟩ = some (.int .u8 s.p) ∧ W.cell? ⟨b, off + i * 3 + 1, none⟩ = some (.int .u64 s.n) ∧ W.cell? ⟨b, off + i * 3 + 2, none⟩ = some s.val ∧ (0 ≤ s.p ∧ s.p < 256) ∧ (0 ≤ s.n ∧ s.n < 18446744073709551616) ∧ RowIn W s.a s.c s.z) len (fun i hi => by
      obtain ⟨cs, r, t⟩ := hel i (by omega)
      rw [Addr.add_lit] at r
      exact elem r t)
    have hmem : ∀ s ∈ ss, ∃ i, ss[i]? = some s := fun s hs => List.mem_iff_getElem?.1 hs
    refine ⟨ss, e, ⟨fun i s hi => ?_, fun s hm => ?_, fun s hm => ?_, fun s hm => ?_⟩⟩
    · obtain ⟨c0, c1, c2, _⟩ := hs i s hi
      exact ⟨b, off, rfl, World.block_lt_of_cell? _ _ c0, c0, c1, c2⟩
    · obtain ⟨i, hi⟩ := hmem s hm
      exact (hs i s hi).2.2.2.1
    · obtain ⟨i, hi⟩ := hmem s hm
      exact (hs i s hi).2.2.2.2.1
    · obtain ⟨i, hi⟩ := hmem s hm
      exact (hs i s hi).2.2.2.2.2

set_option maxRecDepth 100000 in
/-- Too many steps: passed by. -/
theorem walk_long (a : Option Addr) (len cap : Nat) (w : World) (h2 : len ≤ maxLen) (hlong : 256 < len) :
    Calls Yba.prog 4 #[.slice a len cap] w fun e w' => e = .returned (.bool true) ∧ Below w.heap.size w w' := by
  have hd : decide ((len : Int) > 256) = true := by simp; omega
  unfold maxLen at h2
  go_enter Yba.func4, Yba.ntmps4
  go_wp2
  go_ret
  exact ⟨rfl, Below.refl _ _⟩

theorem walk (a : Option Addr) (len cap : Nat) (ss : List Step) (w : World) (hm : len ≤ maxLen) (hl : ss.length = len) (hin : Ins w a ss) :
    Calls Yba.prog 4 #[.slice a len cap] w fun e w' => e = .returned (.bool true) ∧ Below w.heap.size w w' := by
  by_cases h : 256 < len
  · exact walk_long a len cap w hm h
  · subst hl
    exact script_calls a cap ss w hin (by omega)

set_option maxRecDepth 100000 in
theorem lifted (os : Os) (started : os.Started) (H : Type) (enc : TypeId × Value → H) :
    ReturnsInHanded {} Yba.checked os 4 .any (Rows.lawS0583AScriptSpec.pre6 enc Yba.prog Yba.f4 Rows.lawS0583AScriptRow.domain false) (Rows.lawS0583AScriptSpec.post enc Yba.prog Yba.f4 false true false false) := by
  refine returnsInHanded_of_change (C := Yba.checked) own started (by kernel_rfl) Yba.func4
    (ChangeSpec.witness6 (enc := enc) (C := Yba.checked) false ⟨#[], #[.slice none 0 0], []⟩ 8 (by kernel_rfl) (by kernel_rfl) (by kernel_rfl) (by kernel_rfl)) ?_
  intro W base args ds gs before hval0 hW hcnd _
  have hval : ∀ (j : Nat) t v, Yba.f4.params[j]? = some t → args[j]? = some v → Value.okWide Yba.prog W .any base t v := hval0
  have hW' := hW
  obtain ⟨p, q, hA0, hV, rfl, hfz, hnd⟩ := hW
  have hA : DataW.TrodAll enc Yba.prog W 0 (fun _ => true) true Yba.f4.params.toList args.toList ds p := hA0
  rw [Yba.params4] at hA hval
  obtain ⟨v0, vs0, d0, ds0, p0, q0, hargs, rfl, rfl, h0, r0⟩ := trodAll_cons hA
  obtain ⟨rfl, rfl, rfl⟩ := trodAll_nil r0
  obtain rfl : args = #[v0] := by cases args; simp_all
  obtain ⟨rfl, rfl⟩ := trodVars_none hV
  obtain ⟨a0, len0, cap0, rfl⟩ := okWide_slice Yba.underlying51 (hval 0 51 v0 rfl rfl)
  have k0 := h0
  have lt0 : ∀ x ∈ p0, x.block < W.heap.size := by obtain ⟨m, hm⟩ := k0; exact DataW.trod_lt m _ _ _ hm
  obtain ⟨hm, ss, hss, hin⟩ : len0 ≤ maxLen ∧ ∃ ss : List Step, ss.length = len0 ∧ Ins W a0 ss := by
    obtain ⟨fuel, hf⟩ := h0
    have hf' : DataW.trod enc Yba.prog W 0 (fun _ => true) true fuel 51 [.slice a0 len0 cap0] = some (d0, p0) := hf
    exact ins_of hf'
  clear hA0 hval0
  refine (walk a0 len0 cap0 ss W hm hss hin).mono fun e W' ⟨he, bel⟩ => ?_
  subst he
  exact ⟨_, rfl, _, _, _, [], _, [], hW', trodAll_mk1 (shut_bool Yba.underlying4 _), (trodAll_cons_mk (Below.trod laidOut (by kernel_rfl) (of_decide_eq_true (by kernel_rfl)) k0 bel lt0) trodAll_mk0), rfl, bel.frame _, fun h => by cases h⟩

theorem over : Rows.lawS0583AScriptRow.holds Yba.pinned (OpenSpec.ofChange Rows.lawS0583AScriptSpec) :=
  OpenClaim.holds_of_wide 4 Yba.f4 rfl rfl rfl rfl rfl rfl rfl ⟨rfl, rfl, rfl, rfl, rfl⟩ rfl rfl rfl rfl rfl (by kernel_rfl) Yba.func4 (by kernel_rfl)
    (of_decide_eq_true (by kernel_rfl)) (by unfold Func.isWrapper; first | (rw [if_pos (by decide +kernel)]; kernel_rfl) | (rw [if_neg (by decide +kernel)]; exact ⟨rfl, rfl⟩))
    (fun os started H enc _ => lifted os started H enc)

/-- The statement. -/
theorem proved : Rows.LawS0583AScriptSaid := over
end Go.Proofs.Ybulklay.lawS0583AScript
