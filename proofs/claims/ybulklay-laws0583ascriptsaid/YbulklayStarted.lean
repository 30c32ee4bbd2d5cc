import Derived.Test.YbulklayLeaves
namespace Go.Proofs.Ybulklay
open Go.RowKit
open Go.ChangeMaps (setBlock)

theorem setBlock_at {w : World} {b : Nat} {o : Obj} (h : b < w.heap.size) : (setBlock w b o).heap[b]? = some o := by
  simp [setBlock, h]
theorem setBlock_other {w : World} {b k : Nat} {o : Obj} (h : k ≠ b) : (setBlock w b o).heap[k]? = w.heap[k]? := by
  simp [setBlock, Ne.symm h]
theorem setBlock_size (w : World) (b : Nat) (o : Obj) : (setBlock w b o).heap.size = w.heap.size := by simp [setBlock]

/-- What Started has done by the time it hands the record on. -/
structure Mid (w1 W : World) (v : Value) (oB vB : Nat) (fin fl : Int) (vs : Es) (p num : Int) (ao : Option Addr) (cp : Nat) (zs : List Int) : Prop where
  ob : W.heap[oB]? = some (.cells #[.int .u64 num, .int .u64 fin, .int .u64 fl, .map (some vB)] 45 (0, 0))
  vb : W.heap[vB]? = some (mobj .u64 (put vs num (.slice ao zs.length cp)))
  kept : ∀ k, k < w1.heap.size → k ≠ oB → k ≠ vB → W.heap[k]? = w1.heap[k]?
  size : w1.heap.size ≤ W.heap.size
  os : W.os = w1.os
  tape : W.tape = w1.tape
  output : W.output = w1.output
  row : W.ownsRow w1.heap.size 5 1 v (10 + zs.length) (u8s (recOf p num zs))

def due : ByteArray := ⟨#[98, 101, 102, 111, 114, 101, 32, 115, 101, 110, 100, 105, 110, 103]⟩

set_option maxHeartbeats 1000000 in
set_option maxRecDepth 100000 in
theorem started_calls (R : Value → World → World → Prop) (sB oB vB : Nat) (st fin fl p num : Int) (vs : Es) (ao : Option Addr) (cp : Nat) (zs : List Int) (w w1 : World)
    (hown : Calls Yba.prog 11 #[.pointer (some ⟨sB, 0, none⟩), .int .u8 p] w fun e w' => e = .returned (.pointer (some ⟨oB, 0, none⟩)) ∧ w' = w1)
    (ho : w1.heap[oB]? = some (.cells #[.int .u64 st, .int .u64 fin, .int .u64 fl, .map (some vB)] 45 (0, 0)))
    (hv : w1.heap[vB]? = some (mobj .u64 vs)) (hval : RowIn w1 ao cp zs) (hav : ∀ g, ao = some g → 0 < zs.length → g.block ≠ oB ∧ g.block ≠ vB)
    (h0 : 0 ≤ num) (h1 : num < 18446744073709551616) (hl : zs.length ≤ 1000000)
    (hemit : ∀ v W, Mid w1 W v oB vB fin fl vs p num ao cp zs → Calls Yba.prog 12 #[.pointer (some ⟨sB, 0, none⟩), v, .string due] W fun e w' => e = .returned (.tuple #[]) ∧ R v W w') :
    Calls Yba.prog 7 #[.pointer (some ⟨sB, 0, none⟩), .int .u8 p, .int .u64 num, .slice ao zs.length cp] w fun e w' => e = .returned (.tuple #[]) ∧ ∃ v W, Mid w1 W v oB vB fin fl vs p num ao cp zs ∧ R v W w' := by
  have hob : oB < w1.heap.size := (Array.getElem?_eq_some_iff.1 ho).1
  have hvb : vB < w1.heap.size := (Array.getElem?_eq_some_iff.1 hv).1
  have hne : vB ≠ oB := by intro e; rw [e, ho] at hv; cases hv
  have c3 : w1.cell? ⟨oB, 3, none⟩ = some (.map (some vB)) := by simp [World.cell?, ho]
  have c0 : w1.cell? ⟨oB, 0, none⟩ = some (.int .u64 st) := by simp [World.cell?, ho]
  have f0 : w1.frozen? ⟨oB, 0, none⟩ = false := by simp [World.frozen?, ho]
  have hE := run_entry (P := Yba.prog) (w := w1.setCell ⟨oB, 0, none⟩ (.int .u64 num)) Yba.underlying43 Yba.underlying22 (b := vB) (es := vs) (by rw [Below.heap_setCell _ _ _ _ hne]; exact hv) num (Yba.zeroValue23 _)
  have hS := run_store (P := Yba.prog) (T := 43) (w := setBlock (w1.setCell ⟨oB, 0, none⟩ (.int .u64 num)) vB (mobj .u64 (pre vs num (.slice none 0 0)))) (b := vB) (es := vs) (x := num) (z := .slice none 0 0)
    (setBlock_at (by simp [World.setCell]; exact hvb)) (.slice ao zs.length cp)
  obtain ⟨W3, hW3⟩ : ∃ W3, setBlock (setBlock (w1.setCell ⟨oB, 0, none⟩ (.int .u64 num)) vB (mobj .u64 (pre vs num (.slice none 0 0)))) vB (mobj .u64 (put vs num (.slice ao zs.length cp))) = W3 := ⟨_, rfl⟩
  rw [hW3] at hS
  have hk3 : ∀ k, k ≠ oB → k ≠ vB → W3.heap[k]? = w1.heap[k]? := by
    intro k ha hb
    rw [← hW3, setBlock_other hb, setBlock_other hb, Below.heap_setCell _ _ _ _ ha]
  have hs3 : W3.heap.size = w1.heap.size := by rw [← hW3, setBlock_size, setBlock_size]; simp [World.setCell]
  have hv3 : W3.heap[vB]? = some (mobj .u64 (put vs num (.slice ao zs.length cp))) := by
    rw [← hW3]; exact setBlock_at (by rw [setBlock_size]; simp [World.setCell]; exact hvb)
  have ho3 : W3.heap[oB]? = some (.cells #[.int .u64 num, .int .u64 fin, .int .u64 fl, .map (some vB)] 45 (0, 0)) := by
    rw [← hW3, setBlock_other (Ne.symm hne), setBlock_other (Ne.symm hne)]
    simp [World.setCell, Array.getElem?_modify, ho]
  have hm3 : W3.os = w1.os ∧ W3.tape = w1.tape ∧ W3.output = w1.output := by rw [← hW3]; exact ⟨rfl, rfl, rfl⟩
  have hr3 : RowIn W3 ao cp zs := hval.moved fun g hg hn => hk3 _ (hav g hg hn).1 (hav g hg hn).2
  have hrec := record_calls p num ao cp zs W3 hr3 h0 h1 (by omega)
  have HK3 := hid hk3
  have HV3 := hid hv3
  have HO3 := hid ho3
  have HM3 := hid hm3
  have HS3 := hid hs3
  have HREC := hid hrec
  have HOWN := hid hown
  have HEM := hid hemit
  clear hk3 hv3 ho3 hm3 hs3 hrec hr3 hown hemit hav hval hW3 ho hv
  go_enter Yba.func7, Yba.ntmps7
  go_wp2_with fail
  refine HOWN.out.mono ?_
  rintro e w2 ⟨rfl, rfl⟩
  go_wp2_with fail
  clear hE hS
  refine HREC.out.mono ?_
  rintro e W ⟨v, rfl, hrow, hb⟩
  have hmid : Mid w2 W v oB vB fin fl vs p num ao cp zs := by
    have hs := HS3.out
    refine ⟨?_, ?_, ?_, ?_, ?_, ?_, ?_, ?_⟩
    · rw [hb.block oB (by omega)]; exact HO3.out
    · rw [hb.block vB (by omega)]; exact HV3.out
    · intro k hk ha hbb
      rw [hb.block k (by omega)]; exact HK3.out k ha hbb
    · have := hb.size; omega
    · rw [hb.os]; exact HM3.out.1
    · rw [hb.tape]; exact HM3.out.2.1
    · rw [hb.output]; exact HM3.out.2.2
    · rw [← hs]; exact hrow
  have HMID := hid hmid
  clear hmid hrow hb HV3 HO3 HK3 HM3 HS3 HREC HOWN c3 c0 f0
  go_wp2_with fail
  refine (HEM.out v W HMID.out).mono ?_
  rintro e w' ⟨rfl, hR⟩
  have HR := hid hR
  clear hR
  go_wp2
  go_end0
  exact ⟨rfl, v, W, HMID.out, HR.out⟩
end Go.Proofs.Ybulklay
