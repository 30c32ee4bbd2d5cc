import Derived.Test.YbulklaySingle
import Derived.Maps.AppendAt
namespace Go.Proofs.Ybulklay
open Go.RowKit
open Go.ChangeMaps (setBlock)

theorem infoRow : (Yba.prog.info? 23).map (fun i => (i.zero, i.size, i.bytes)) = some (some (.slice none 0 0), 1, 24) := by kernel_rfl
theorem infoDue : (Yba.prog.info? 24).map (fun i => (i.zero, i.size, i.bytes)) = some (some (.string ⟨#[]⟩), 1, 16) := by kernel_rfl

/-- The closure's value: it captures two variables, the blocks B, B + 1. -/
def clos (B : Nat) : Value := .func (.func 10) #[] #[.pointer (some ⟨B, 0, none⟩), .pointer (some ⟨B + 1, 0, none⟩)]

/-- What handing on a record does. -/
structure Emit (B i : Nat) (rv wv : Value) (rl wl : List Value) (v : Value) (rv' wv' : Value) (W w' : World) : Prop where
  recs : w'.heap[B]? = some (.cells #[rv'] 54 (0, 0))
  rrow : w'.ownsRow (B + 7) 23 1 rv' (i + 1) (rl ++ [v])
  whens : w'.heap[B + 1]? = some (.cells #[wv'] 55 (0, 0))
  wrow : w'.ownsRow (B + 7) 24 1 wv' (i + 1) (wl ++ [.string due])
  os : w'.os = W.os
  tape : w'.tape = W.tape
  output : w'.output = W.output
  size : W.heap.size ≤ w'.heap.size
  kept : ∀ k, k < W.heap.size → k ≠ B → k ≠ B + 1 → some k ≠ rv.ownBlock → some k ≠ wv.ownBlock → w'.heap[k]? = W.heap[k]?

theorem ownsRow_ty {w : World} {base n : Nat} {e : TypeId} {v : Value} {xs : List Value} (h : w.ownsRow base e 1 v n xs) (k : Nat) (hk : v.ownBlock = some k) : base ≤ k ∧ ∃ cur, w.heap[k]? = some (.cells cur e (0, 0)) := by
  rcases h.2 with ⟨rfl, _⟩ | ⟨g, cap, cur, rfl, hb, hh, _⟩
  · cases hk
  · simp [Value.ownBlock] at hk
    subst hk
    exact ⟨hb, cur, hh⟩
theorem ownsRow_slice {w : World} {base n : Nat} {e : TypeId} {v : Value} {xs : List Value} (h : w.ownsRow base e 1 v (n + 1) xs) : ∃ g cap, v = .slice (some ⟨g, 0, none⟩) (n + 1) cap := by
  rcases h.2 with ⟨_, h0⟩ | ⟨g, cap, cur, e, _⟩
  · omega
  · exact ⟨g, cap, e⟩
theorem heap_set0 {W : World} {b : Nat} {x v : Value} {t : TypeId} (h : W.heap[b]? = some (.cells #[x] t (0, 0))) : (W.setCell ⟨b, 0, none⟩ v).heap[b]? = some (.cells #[v] t (0, 0)) := by
  simp [World.setCell, Array.getElem?_modify, h]

set_option maxHeartbeats 1000000 in
theorem note_calls (B i g ln cap : Nat) (rv wv : Value) (rl wl : List Value) (W : World) (hi : i ≤ 1000)
    (hr : W.heap[B]? = some (.cells #[rv] 54 (0, 0))) (hrr : W.ownsRow (B + 7) 23 1 rv i rl) (hw : W.heap[B + 1]? = some (.cells #[wv] 55 (0, 0))) (hww : W.ownsRow (B + 7) 24 1 wv i wl) (hs : B + 7 ≤ W.heap.size) :
    Calls Yba.prog 10 #[.slice (some ⟨g, 0, none⟩) ln cap, .string due, .pointer (some ⟨B, 0, none⟩), .pointer (some ⟨B + 1, 0, none⟩)] W fun e w' => e = .returned (.tuple #[]) ∧ ∃ rv' wv', Emit B i rv wv rl wl (.slice (some ⟨g, 0, none⟩) ln cap) rv' wv' W w' := by
  obtain ⟨i0, hi0, hz0, hz1, hz2⟩ := info_parts infoRow
  obtain ⟨i1, hj0, hj1, hj2, hj3⟩ := info_parts infoDue
  have c0 : W.cell? ⟨B, 0, none⟩ = some rv := by simp [World.cell?, hr]
  have HR := hid hr
  have HRR := hid hrr
  have HW := hid hw
  have HWW := hid hww
  have rty := hid (ownsRow_ty hrr)
  have wty := hid (ownsRow_ty hww)
  clear hr hrr hw hww
  go_enter Yba.func10, Yba.ntmps10
  go_wp2_with (at_builtin; refine wpList_append_own_at _ rfl _ _ 54 rfl (B + 7) 23 i0 (.slice none 0 0) 1 24 Yba.underlying54 hi0 hz0 hz1 hz2 rfl (by decide) rv i rl rfl (HRR.out.alloc _) ⟨W.heap.size, 0, none⟩ 1 1 [.slice (some ⟨g, 0, none⟩) ln cap] rfl rfl ?c1 ?c2 ?c3 ?c4 ?c5 ?_)
  case c1 => exact cell_one_new W _ _
  case c2 => intro u hu; simp at hu; subst hu; rfl
  case c3 => unfold maxLen; omega
  case c4 => omega
  case c5 => simp; omega
  intro rv' W1 hown1 hgrow1 hnil1 hat1
  obtain ⟨g1, cap1, hrv⟩ := ownsRow_slice hown1
  have s1 := hgrow1.size
  simp at s1
  have k1 : ∀ k, k < W.heap.size → some k ≠ rv.ownBlock → W1.heap[k]? = W.heap[k]? := fun k hk hne => (hgrow1.block k (by simp; omega) hne).trans (Below.heap_alloc _ _ _ hk)
  have nB : some B ≠ rv.ownBlock := fun e => by have := (rty.out B e.symm).1; omega
  have nB1 : some (B + 1) ≠ rv.ownBlock := fun e => by have := (rty.out (B + 1) e.symm).1; omega
  have hr1 : W1.heap[B]? = some (.cells #[rv] 54 (0, 0)) := (k1 B (by omega) nB).trans HR.out
  have hw1 : (W1.setCell ⟨B, 0, none⟩ rv').heap[B + 1]? = some (.cells #[wv] 55 (0, 0)) := by
    rw [Below.heap_setCell _ _ _ _ (by show B + 1 ≠ B; omega)]; exact (k1 (B + 1) (by omega) nB1).trans HW.out
  have hr2 : (W1.setCell ⟨B, 0, none⟩ rv').heap[B]? = some (.cells #[rv'] 54 (0, 0)) := heap_set0 hr1
  have hne12 : wv.ownBlock = none ∨ wv.ownBlock ≠ rv.ownBlock := by
    cases hwb : wv.ownBlock with
    | none => exact .inl rfl
    | some k =>
      refine .inr fun e => ?_
      obtain ⟨_, c1, e1⟩ := wty.out k hwb
      obtain ⟨_, c2, e2⟩ := rty.out k e.symm
      rw [e1] at e2
      cases e2
  have hww1 : (W1.setCell ⟨B, 0, none⟩ rv').ownsRow (B + 7) 24 1 wv i wl := ownsRow_setCell_below ((HWW.out.alloc _).kept hgrow1 hne12) (by show B < B + 7; omega) _
  have hrr2 : (W1.setCell ⟨B, 0, none⟩ rv').ownsRow (B + 7) 23 1 rv' (i + 1) (rl ++ [.slice (some ⟨g, 0, none⟩) ln cap]) := ownsRow_setCell_below hown1 (by show B < B + 7; omega) _
  have d0 : W1.cell? ⟨B, 0, none⟩ = some rv := by simp [World.cell?, hr1]
  have e0 : W1.frozen? ⟨B, 0, none⟩ = false := by simp [World.frozen?, hr1]
  have c1 : (W1.setCell ⟨B, 0, none⟩ rv').cell? ⟨B + 1, 0, none⟩ = some wv := by simp only [World.cell?, hw1]; rfl
  have s2 : (W1.setCell ⟨B, 0, none⟩ rv').heap.size = W1.heap.size := by simp [World.setCell]
  have HM2 : Hid ((W1.setCell ⟨B, 0, none⟩ rv').os = W.os ∧ (W1.setCell ⟨B, 0, none⟩ rv').tape = W.tape ∧ (W1.setCell ⟨B, 0, none⟩ rv').output = W.output) := ⟨hgrow1.os, hgrow1.tape, hgrow1.output⟩
  have HK2 : Hid (∀ k, k < W.heap.size → k ≠ B → some k ≠ rv.ownBlock → (W1.setCell ⟨B, 0, none⟩ rv').heap[k]? = W.heap[k]?) := fun k hk hb hne => by
    rw [Below.heap_setCell _ _ _ _ hb]; exact k1 k hk hne
  have HS1 := hid s1
  have HW1 := hid hw1
  have HR2 := hid hr2
  have HWW1 := hid hww1
  have HRR2 := hid hrr2
  have ha1 : ∀ k, rv'.ownBlock = some k → (k < W.heap.size → some k = rv.ownBlock) ∧ ∃ cur, (W1.setCell ⟨B, 0, none⟩ rv').heap[k]? = some (.cells cur 23 (0, 0)) := fun k hk => ⟨fun hl => by
    rcases hat1 with e | e
    · rw [← hk, e]
    · rw [e] at hk; cases hk; omega, (ownsRow_ty hrr2 k hk).2⟩
  have HA1 := hid ha1
  have HS2 := hid s2
  clear s1 hw1 hr2 hww1 hrr2 hr1 k1 hne12 hown1 hgrow1 hnil1 hat1 nB nB1 c0 ha1 s2
  subst hrv
  go_wp2_with (at_builtin; refine wpList_append_own_at _ rfl _ _ 55 rfl (B + 7) 24 i1 (.string ⟨#[]⟩) 1 16 Yba.underlying55 hj0 hj1 hj2 hj3 rfl (by decide) wv i wl rfl (HWW1.out.alloc _) ⟨W1.heap.size, 0, none⟩ 1 1 [.string due] rfl rfl ?c1 ?c2 ?c3 ?c4 ?c5 ?_)
  case c1 => exact cells_new _ [.string due] 24 _ HS2.out
  case c2 => intro u hu; simp at hu; subst hu; rfl
  case c3 => unfold maxLen; omega
  case c4 => omega
  case c5 => have := HS1.out; simp [World.setCell]; omega
  intro wv' W3 hown3 hgrow3 hnil3 hat3
  have ss1 := HS1.out
  have ss2 := HS2.out
  have s3 := hgrow3.size
  simp only [World.size_alloc] at s3
  have k3 : ∀ k, k < W1.heap.size → some k ≠ wv.ownBlock → W3.heap[k]? = (W1.setCell ⟨B, 0, none⟩ (.slice (some ⟨g1, 0, none⟩) (i + 1) cap1)).heap[k]? := fun k hk hne => (hgrow3.block k (by simp [World.setCell]; omega) hne).trans (Below.heap_alloc _ _ _ (by omega))
  have nB : some B ≠ wv.ownBlock := fun e => by have := (wty.out B e.symm).1; omega
  have nB1 : some (B + 1) ≠ wv.ownBlock := fun e => by have := (wty.out (B + 1) e.symm).1; omega
  have hw3 : W3.heap[B + 1]? = some (.cells #[wv] 55 (0, 0)) := (k3 (B + 1) (by omega) nB1).trans HW1.out
  have hr3 : W3.heap[B]? = some (.cells #[.slice (some ⟨g1, 0, none⟩) (i + 1) cap1] 54 (0, 0)) := (k3 B (by omega) nB).trans HR2.out
  obtain ⟨g2, cap2, hwv⟩ := ownsRow_slice hown3
  subst hwv
  have d1 : W3.cell? ⟨B + 1, 0, none⟩ = some wv := by simp [World.cell?, hw3]
  have e1 : W3.frozen? ⟨B + 1, 0, none⟩ = false := by simp [World.frozen?, hw3]
  have hE : Emit B i rv wv rl wl (.slice (some ⟨g, 0, none⟩) ln cap) (.slice (some ⟨g1, 0, none⟩) (i + 1) cap1) (.slice (some ⟨g2, 0, none⟩) (i + 1) cap2) W (W3.setCell ⟨B + 1, 0, none⟩ (.slice (some ⟨g2, 0, none⟩) (i + 1) cap2)) := by
    have hne : some g1 ≠ wv.ownBlock := fun e => by
      obtain ⟨_, c1, e1⟩ := wty.out g1 e.symm
      obtain ⟨a1, c2, e2⟩ := HA1.out g1 rfl
      have hg1 : g1 < W.heap.size := (Array.getElem?_eq_some_iff.1 e1).1
      obtain ⟨_, c3, e3⟩ := rty.out g1 (a1 hg1).symm
      rw [e1] at e3
      cases e3
    refine ⟨?_, ?_, heap_set0 hw3, ownsRow_setCell_below hown3 (by show B + 1 < B + 7; omega) _, ?_, ?_, ?_, ?_, ?_⟩
    · rw [Below.heap_setCell _ _ _ _ (by show B ≠ B + 1; omega)]; exact hr3
    · exact ownsRow_setCell_below ((HRR2.out.alloc _).kept hgrow3 (.inr hne)) (by show B + 1 < B + 7; omega) _
    · exact hgrow3.os.trans HM2.out.1
    · exact hgrow3.tape.trans HM2.out.2.1
    · exact hgrow3.output.trans HM2.out.2.2
    · simp only [World.setCell, Array.size_modify]; omega
    · intro k hk h1 h2 h3 h4
      rw [Below.heap_setCell _ _ _ _ h2, k3 k (by omega) h4]
      exact HK2.out k hk h1 h3
  have HE := hid hE
  clear hE hw3 hr3 k3 hown3 hgrow3 hnil3 hat3 s3 HA1 HRR2 HWW1 HR2 HW1 HK2 HM2 rty wty HR HRR HW HWW c1 d0 e0
  go_wp2
  go_end0
  exact ⟨rfl, _, _, HE.out⟩

set_option maxHeartbeats 400000 in
theorem emit_script (B i g ln cap : Nat) (rv wv : Value) (rl wl : List Value) (W : World) (hi : i ≤ 1000)
    (hr : W.heap[B]? = some (.cells #[rv] 54 (0, 0))) (hrr : W.ownsRow (B + 7) 23 1 rv i rl) (hw : W.heap[B + 1]? = some (.cells #[wv] 55 (0, 0))) (hww : W.ownsRow (B + 7) 24 1 wv i wl) (hs : B + 7 ≤ W.heap.size)
    (hf : W.cell? ⟨B + 3, 48, none⟩ = some (clos B)) :
    Calls Yba.prog 12 #[.pointer (some ⟨B + 3, 0, none⟩), .slice (some ⟨g, 0, none⟩) ln cap, .string due] W fun e w' => e = .returned (.tuple #[]) ∧ ∃ rv' wv', Emit B i rv wv rl wl (.slice (some ⟨g, 0, none⟩) ln cap) rv' wv' W w' := by
  have HN := hid (note_calls B i g ln cap rv wv rl wl W hi hr hrr hw hww hs)
  unfold clos at hf
  clear hr hrr hw hww
  have hnf := func_not_nil
  go_enter Yba.func12, Yba.ntmps12
  go_wp2_with fail
  refine HN.out.mono ?_
  rintro e w' ⟨rfl, hE⟩
  have HE := hid hE
  clear hE HN hf
  go_wp2
  go_end0
  exact ⟨rfl, HE.out⟩
end Go.Proofs.Ybulklay
