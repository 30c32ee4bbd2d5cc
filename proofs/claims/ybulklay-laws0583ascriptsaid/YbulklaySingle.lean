import Derived.Test.YbulklayStarted
namespace Go.Proofs.Ybulklay
open Go.RowKit
open Go.ChangeMaps (setBlock)

/-- The closure's value: it captures three variables, the blocks B, B + 1, B + 2. -/
def clo (B : Nat) : Value := .func (.func 5) #[] #[.pointer (some ⟨B, 0, none⟩), .pointer (some ⟨B + 1, 0, none⟩), .pointer (some ⟨B + 1 + 1, 0, none⟩)]

theorem func_not_nil (w : World) (f : Fn) (a b : Array Value) : (binOp .neq 37 (.func f a b) .nilFunc).run Yba.prog w = .ok (.bool true) w := by kernel_rfl

/-- The world ahead of Started, from block B on. -/
structure Ready (B : Nat) (es : Es) (w0 wr : World) : Prop where
  calls : wr.heap[B]? = some (.cells #[.int .i64 0] 3 (0, 0))
  got : wr.heap[B + 1]? = some (.cells #[.slice none 0 0] 23 (0, 0))
  when : wr.heap[B + 1 + 1]? = some (.cells #[.string ⟨#[]⟩] 24 (0, 0))
  own : wr.heap[B + 1 + 1 + 1]? = some (mobj .u8 es)
  map : wr.cell? ⟨B + 1 + 1 + 1 + 1, 39, none⟩ = some (.map (some (B + 1 + 1 + 1)))
  fn : wr.cell? ⟨B + 1 + 1 + 1 + 1, 48, none⟩ = some (clo B)
  bel : Below B w0 wr

set_option maxHeartbeats 400000 in
theorem emit_single (B g n cap : Nat) (W : World) (hc : W.heap[B]? = some (.cells #[.int .i64 0] 3 (0, 0))) (hg : W.heap[B + 1]? = some (.cells #[.slice none 0 0] 23 (0, 0))) (hw : W.heap[B + 1 + 1]? = some (.cells #[.string ⟨#[]⟩] 24 (0, 0)))
    (hf : W.cell? ⟨B + 1 + 1 + 1 + 1, 48, none⟩ = some (clo B)) :
    Calls Yba.prog 12 #[.pointer (some ⟨B + 1 + 1 + 1 + 1, 0, none⟩), .slice (some ⟨g, 0, none⟩) n cap, .string due] W fun e w' => e = .returned (.tuple #[]) ∧ w' = ((W.setCell ⟨B, 0, none⟩ (.int .i64 1)).setCell ⟨B + 1, 0, none⟩ (.slice (some ⟨g, 0, none⟩) n cap)).setCell ⟨B + 1 + 1, 0, none⟩ (.string due) := by
  have c0 : W.cell? ⟨B, 0, none⟩ = some (.int .i64 0) := by simp [World.cell?, hc]
  have f0 : W.frozen? ⟨B, 0, none⟩ = false := by simp [World.frozen?, hc]
  have c1 : W.cell? ⟨B + 1, 0, none⟩ = some (.slice none 0 0) := by simp [World.cell?, hg]
  have f1 : W.frozen? ⟨B + 1, 0, none⟩ = false := by simp [World.frozen?, hg]
  have c2 : W.cell? ⟨B + 1 + 1, 0, none⟩ = some (.string ⟨#[]⟩) := by simp [World.cell?, hw]
  have f2 : W.frozen? ⟨B + 1 + 1, 0, none⟩ = false := by simp [World.frozen?, hw]
  unfold clo at hf
  clear hc hg hw
  have hnf := func_not_nil
  go_enter Yba.func12, Yba.ntmps12
  go_wp2
  go_end0
  go_wp2
  go_end0
  exact ⟨rfl, rfl⟩

/-- The world behind Started. -/
structure Done (B : Nat) (es : Es) (oB vB : Nat) (fin fl : Int) (vs : Es) (p num : Int) (zs : List Int) (w0 wr : World) : Prop where
  calls : wr.cell? ⟨B, 0, none⟩ = some (.int .i64 1)
  got : ∃ g cap, wr.cell? ⟨B + 1, 0, none⟩ = some (.slice (some ⟨g, 0, none⟩) (10 + zs.length) cap) ∧ RowIn wr (some ⟨g, 0, none⟩) cap (recOf p num zs)
  when : wr.cell? ⟨B + 1 + 1, 0, none⟩ = some (.string due)
  own : wr.heap[B + 1 + 1 + 1]? = some (mobj .u8 es)
  map : wr.cell? ⟨B + 1 + 1 + 1 + 1, 39, none⟩ = some (.map (some (B + 1 + 1 + 1)))
  ob : wr.heap[oB]? = some (.cells #[.int .u64 num, .int .u64 fin, .int .u64 fl, .map (some vB)] 45 (0, 0))
  vb : wr.heap[vB]? = some (mobj .u64 vs)
  bel : Below B w0 wr
  size : B + 1 + 1 + 1 + 1 < wr.heap.size

theorem rec_wf (p num : Int) (zs : List Int) (hp0 : 0 ≤ p) (hp1 : p < 256) (h0 : 0 ≤ num) (h1 : num < 18446744073709551616) (hz : ∀ z ∈ zs, 0 ≤ z ∧ z < 256) : ∀ z ∈ recOf p num zs, 0 ≤ z ∧ z < 256 := by
  intro z hm
  simp only [recOf, be, List.mem_append, List.mem_cons, List.not_mem_nil, or_false] at hm
  rcases hm with ((h | h) | h) | h
  · omega
  · omega
  · omega
  · exact hz z h

theorem row_rec {w : World} {B : Nat} {v : Value} {p num : Int} {zs : List Int} (h : w.ownsRow B 5 1 v (10 + zs.length) (u8s (recOf p num zs))) (hwf : ∀ z ∈ recOf p num zs, 0 ≤ z ∧ z < 256) :
    ∃ g cap, v = .slice (some ⟨g, 0, none⟩) (10 + zs.length) cap ∧ B ≤ g ∧ g < w.heap.size ∧ RowIn w (some ⟨g, 0, none⟩) cap (recOf p num zs) := by
  have hlen : (recOf p num zs).length = 10 + zs.length := by simp [recOf, be]; omega
  rcases h.2 with ⟨_, h0⟩ | ⟨g, cap, cur, rfl, hb, hh, hn, hm, _, _⟩
  · omega
  · refine ⟨g, cap, rfl, hb, (Array.getElem?_eq_some_iff.1 hh).1, by omega, hm, hwf, .inr ⟨⟨g, 0, none⟩, rfl, fun j hj => ?_⟩⟩
    rw [Addr.add_lit, Nat.zero_add, h.cellAt j (by omega)]
    simp [u8s, List.getD, hj]

theorem cell_set {W : World} {b : Nat} {x v : Value} {t : TypeId} (h : W.heap[b]? = some (.cells #[x] t (0, 0))) : (W.setCell ⟨b, 0, none⟩ v).cell? ⟨b, 0, none⟩ = some v := by
  simp [World.cell?, World.setCell, Array.getElem?_modify, h]

/-- Started, from a world w1 in which the proto's record is there. -/
theorem single_started (B oB vB : Nat) (es : Es) (st fin fl p num : Int) (vs : Es) (ao : Option Addr) (cp : Nat) (zs : List Int) (w0 w w1 : World)
    (hown : Calls Yba.prog 11 #[.pointer (some ⟨B + 1 + 1 + 1 + 1, 0, none⟩), .int .u8 p] w fun e w' => e = .returned (.pointer (some ⟨oB, 0, none⟩)) ∧ w' = w1)
    (hr : Ready B es w0 w1) (ho : w1.heap[oB]? = some (.cells #[.int .u64 st, .int .u64 fin, .int .u64 fl, .map (some vB)] 45 (0, 0)))
    (hv : w1.heap[vB]? = some (mobj .u64 vs)) (hoB : B + 1 + 1 + 1 + 1 < oB) (hvB : B + 1 + 1 + 1 + 1 < vB) (hval : RowIn w1 ao cp zs) (hav : ∀ g, ao = some g → 0 < zs.length → g.block < B)
    (hp0 : 0 ≤ p) (hp1 : p < 256) (h0 : 0 ≤ num) (h1 : num < 18446744073709551616) (hl : zs.length ≤ 1000000) :
    Calls Yba.prog 7 #[.pointer (some ⟨B + 1 + 1 + 1 + 1, 0, none⟩), .int .u8 p, .int .u64 num, .slice ao zs.length cp] w fun e w' => e = .returned (.tuple #[]) ∧ Done B es oB vB fin fl (put vs num (.slice ao zs.length cp)) p num zs w0 w' ∧ ∀ k, B + 1 + 1 + 1 + 1 < k → k < w1.heap.size → k ≠ oB → k ≠ vB → w'.heap[k]? = w1.heap[k]? := by
  have hs1 : B + 1 + 1 + 1 + 1 < w1.heap.size := World.block_lt_of_cell? _ _ hr.map
  have hwf := rec_wf p num zs hp0 hp1 h0 h1 hval.wf
  have kc : ∀ {W v}, Mid w1 W v oB vB fin fl vs p num ao cp zs → ∀ k, k < B + 1 + 1 + 1 + 1 + 1 → W.heap[k]? = w1.heap[k]? := fun m k hk => m.kept k (by omega) (by omega) (by omega)
  refine (started_calls (fun v W w' => w' = ((W.setCell ⟨B, 0, none⟩ (.int .i64 1)).setCell ⟨B + 1, 0, none⟩ v).setCell ⟨B + 1 + 1, 0, none⟩ (.string due)) (B + 1 + 1 + 1 + 1) oB vB st fin fl p num vs ao cp zs w w1 hown ho hv hval
    (fun g hg hn => by have := hav g hg hn; omega) h0 h1 hl (fun v W m => ?_)).mono ?_
  · obtain ⟨g, cap, rfl, _, _, _⟩ := row_rec m.row hwf
    exact emit_single B g _ cap W ((kc m B (by omega)).trans hr.calls) ((kc m (B + 1) (by omega)).trans hr.got) ((kc m (B + 1 + 1) (by omega)).trans hr.when)
      ((World.cell?_of_block (w := w1) (a := ⟨B + 1 + 1 + 1 + 1, 48, none⟩) (kc m _ (by simp))).trans hr.fn)
  · rintro e w' ⟨rfl, v, W, m, rfl⟩
    refine ⟨rfl, ?_⟩
    obtain ⟨g, cap, rfl, hg1, hg2, hrow⟩ := row_rec m.row hwf
    have hother : ∀ k, k ≠ B → k ≠ B + 1 → k ≠ B + 1 + 1 → (((W.setCell ⟨B, 0, none⟩ (.int .i64 1)).setCell ⟨B + 1, 0, none⟩ (.slice (some ⟨g, 0, none⟩) (10 + zs.length) cap)).setCell ⟨B + 1 + 1, 0, none⟩ (.string due)).heap[k]? = W.heap[k]? := by
      intro k h1 h2 h3
      rw [Below.heap_setCell _ _ _ _ h3, Below.heap_setCell _ _ _ _ h2, Below.heap_setCell _ _ _ _ h1]
    have b0 := (kc m B (by omega)).trans hr.calls
    have b1 := (kc m (B + 1) (by omega)).trans hr.got
    have b2 := (kc m (B + 1 + 1) (by omega)).trans hr.when
    refine ⟨⟨?_, ⟨g, cap, ?_, hrow.moved fun a ha _ => ?_⟩, ?_, ?_, ?_, ?_, ?_, ?_, ?_⟩, fun k hk1 hk2 hk3 hk4 => (hother k (by omega) (by omega) (by omega)).trans (m.kept k hk2 hk3 hk4)⟩
    · rw [World.cell?_of_block (a := ⟨B, 0, none⟩) (Below.heap_setCell _ _ _ B (by show B ≠ B + 1 + 1; omega)), World.cell?_of_block (a := ⟨B, 0, none⟩) (Below.heap_setCell _ _ _ B (by show B ≠ B + 1; omega))]
      exact cell_set b0
    · rw [World.cell?_of_block (a := ⟨B + 1, 0, none⟩) (Below.heap_setCell _ _ _ (B + 1) (by show B + 1 ≠ B + 1 + 1; omega))]
      exact cell_set (by rw [Below.heap_setCell _ _ _ _ (by show B + 1 ≠ B; omega)]; exact b1)
    · simp only [Option.some.injEq] at ha
      subst ha
      exact hother g (by omega) (by omega) (by omega)
    · exact cell_set (by rw [Below.heap_setCell _ _ _ _ (by show B + 1 + 1 ≠ B + 1; omega), Below.heap_setCell _ _ _ _ (by show B + 1 + 1 ≠ B; omega)]; exact b2)
    · rw [hother _ (by omega) (by omega) (by omega), kc m _ (by omega)]; exact hr.own
    · rw [World.cell?_of_block (w := W) (a := ⟨B + 1 + 1 + 1 + 1, 39, none⟩) (hother (B + 1 + 1 + 1 + 1) (by omega) (by omega) (by omega)), World.cell?_of_block (w := w1) (a := ⟨B + 1 + 1 + 1 + 1, 39, none⟩) (kc m _ (by simp))]; exact hr.map
    · rw [hother _ (by omega) (by omega) (by omega)]; exact m.ob
    · rw [hother _ (by omega) (by omega) (by omega)]; exact m.vb
    · have hW : Below B w1 W := ⟨m.os, m.tape, m.output, m.size, fun k hk => kc m k (by omega)⟩
      exact (((hr.bel.trans hW).setCell (p := ⟨B, 0, none⟩) (Nat.le_refl _) _).setCell (p := ⟨B + 1, 0, none⟩) (by simp) _).setCell (p := ⟨B + 1 + 1, 0, none⟩) (by simp; omega) _
    · have := m.size
      simp [World.setCell]; omega
end Go.Proofs.Ybulklay
