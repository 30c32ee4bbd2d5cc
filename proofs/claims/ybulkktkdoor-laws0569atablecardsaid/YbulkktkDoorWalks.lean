import Derived.Test.YbulkktkDoorRows
import Derived.WalkKit
import Derived.WalkSpells
import Derived.Below
namespace Go.Proofs.YbulkktkDoor
open Go.RowKit

/-- What the table's variable and its memory hold: twelve cells. -/
structure Tab (w : World) (b off cap : Nat) : Prop where
  g : w.cell? ⟨0, 0, none⟩ = some (.slice (some ⟨b, off, none⟩) 4 cap)
  c0 : w.cell? ⟨b, off, none⟩ = some (.int .u16 16)
  c1 : w.cell? ⟨b, off + 1, none⟩ = some (.int .u8 2)
  c2 : w.cell? ⟨b, off + 2, none⟩ = some (.bool false)
  c3 : w.cell? ⟨b, off + 3, none⟩ = some (.int .u16 17)
  c4 : w.cell? ⟨b, off + 4, none⟩ = some (.int .u8 3)
  c5 : w.cell? ⟨b, off + 5, none⟩ = some (.bool false)
  c6 : w.cell? ⟨b, off + 6, none⟩ = some (.int .u16 18)
  c7 : w.cell? ⟨b, off + 7, none⟩ = some (.int .u8 4)
  c8 : w.cell? ⟨b, off + 8, none⟩ = some (.bool true)
  c9 : w.cell? ⟨b, off + 9, none⟩ = some (.int .u16 22)
  c10 : w.cell? ⟨b, off + 10, none⟩ = some (.int .u8 5)
  c11 : w.cell? ⟨b, off + 11, none⟩ = some (.bool true)


def vOf : Nat → Int | 0 => 2 | 1 => 3 | 2 => 4 | _ => 5
def eF (v : Int) : Value :=
  if v = 2 then .tuple #[.agg #[.int .u16 16, .int .u8 2, .bool false], .bool true]
  else if v = 3 then .tuple #[.agg #[.int .u16 17, .int .u8 3, .bool false], .bool true]
  else if v = 4 then .tuple #[.agg #[.int .u16 18, .int .u8 4, .bool true], .bool true]
  else if v = 5 then .tuple #[.agg #[.int .u16 22, .int .u8 5, .bool true], .bool true]
  else .tuple #[.agg #[.int .u16 0, .int .u8 0, .bool false], .bool false]

theorem Tab.below {w w' : World} {b off cap B : Nat} (T : Tab w b off cap) (h : Below B w w') (hb : b < B) (h0 : 0 < B) : Tab w' b off cap :=
  ⟨(h.cell (p := ⟨0, 0, none⟩) h0).trans T.g, (h.cell (p := ⟨b, off, none⟩) hb).trans T.c0, (h.cell (p := ⟨b, off + 1, none⟩) hb).trans T.c1, (h.cell (p := ⟨b, off + 2, none⟩) hb).trans T.c2, (h.cell (p := ⟨b, off + 3, none⟩) hb).trans T.c3, (h.cell (p := ⟨b, off + 4, none⟩) hb).trans T.c4, (h.cell (p := ⟨b, off + 5, none⟩) hb).trans T.c5, (h.cell (p := ⟨b, off + 6, none⟩) hb).trans T.c6, (h.cell (p := ⟨b, off + 7, none⟩) hb).trans T.c7, (h.cell (p := ⟨b, off + 8, none⟩) hb).trans T.c8, (h.cell (p := ⟨b, off + 9, none⟩) hb).trans T.c9, (h.cell (p := ⟨b, off + 10, none⟩) hb).trans T.c10, (h.cell (p := ⟨b, off + 11, none⟩) hb).trans T.c11⟩

def zb : Obj := .cells #[.int .u16 0, .int .u8 0, .bool false] 25

set_option maxHeartbeats 400000 in
theorem errorFor_calls (v : Int) (w : World) (b off cap : Nat) (T : Tab w b off cap) :
    Calls Ybad.prog 5 #[.int .u8 v] w fun e w' => e = .returned (eF v) ∧ Below w.heap.size w w' := by
  have hw0 : 0 < w.heap.size := World.block_lt_of_cell? _ _ T.g
  have hwb : b < w.heap.size := World.block_lt_of_cell? _ _ T.c0
  have HT : Hid (Tab w b off cap) := T
  obtain ⟨g, c0, c1, c2, c3, c4, c5, c6, c7, c8, c9, c10, c11⟩ := T
  go_enter Ybad.func5, Ybad.ntmps5
  go_wp2
  go_loopw [8] (fun i wr => ∃ k : Nat, k ≤ 4 ∧ i = .int .i64 k ∧ (∀ j, j < k → v ≠ vOf j) ∧ Below (w.heap.size + 1) (w.alloc zb) wr) (fun i _ => 4 - (intOf i).toNat)
  case atStart => exact ⟨0, by omega, rfl, fun j hj => by omega, Below.refl _ _⟩
  case round =>
    obtain ⟨k, hk, rfl, hne, hbel⟩ := hrel
    have hbw : Below w.heap.size w wr := ((Below.refl _ _).alloc (Nat.le_refl _) zb).trans (hbel.mono (by omega))
    have Tr := HT.out.below hbw hwb hw0
    have hz : w.heap.size < wr.heap.size := by have := hbel.size; simp at this; omega
    have hb2 : b < wr.heap.size := by omega
    have z0 : wr.cell? ⟨w.heap.size, 0, none⟩ = some (.int .u16 0) := (hbel.cell (p := ⟨w.heap.size, 0, none⟩) (by simp)).trans (by simp [zb])
    have z1 : wr.cell? ⟨w.heap.size, 1, none⟩ = some (.int .u8 0) := (hbel.cell (p := ⟨w.heap.size, 1, none⟩) (by simp)).trans (by simp [zb])
    have z2 : wr.cell? ⟨w.heap.size, 2, none⟩ = some (.bool false) := (hbel.cell (p := ⟨w.heap.size, 2, none⟩) (by simp)).trans (by simp [zb])
    have f0 : wr.frozen? ⟨w.heap.size, 0, none⟩ = false := (hbel.frozen (p := ⟨w.heap.size, 0, none⟩) (by simp)).trans (by simp [zb])
    have f1 : wr.frozen? ⟨w.heap.size, 1, none⟩ = false := (hbel.frozen (p := ⟨w.heap.size, 1, none⟩) (by simp)).trans (by simp [zb])
    have f2 : wr.frozen? ⟨w.heap.size, 2, none⟩ = false := (hbel.frozen (p := ⟨w.heap.size, 2, none⟩) (by simp)).trans (by simp [zb])
    have HB : Hid (Below w.heap.size w wr) := hbw
    have HB1 : Hid (Below (w.heap.size + 1) (w.alloc zb) wr) := hbel
    have HN : Hid (∀ j, j < k → v ≠ vOf j) := hne
    clear g c0 c1 c2 c3 c4 c5 c6 c7 c8 c9 c10 c11 hbw hbel hne
    obtain ⟨g, c0, c1, c2, c3, c4, c5, c6, c7, c8, c9, c10, c11⟩ := Tr
    rcases (show k = 0 ∨ k = 1 ∨ k = 2 ∨ k = 3 ∨ k = 4 from by omega) with rfl | rfl | rfl | rfl | rfl
    · go_wp2
      · have hv : v = 2 := (beq_iff_eq.1 (show (2 == v) = true by assumption)).symm
        refine bodyPost_ret (v := .tuple #[.agg #[.int .u16 16, .int .u8 2, .bool false], .bool true]) (by simp [results, Ybad.results5, go_sem, hz, z0, z1, z2]) rfl ⟨by rw [hv]; rfl, ?_⟩
        exact (((HB.out.setCell (Nat.le_refl _) _).setCell (Nat.le_refl _) _).setCell (Nat.le_refl _) _).alloc (by simp; omega) _
      · have hv : v ≠ 2 := fun e => (beq_eq_false_iff_ne.1 (show (2 == v) = false by assumption)) e.symm
        go_roundw
        case rel => exact ⟨1, by omega, rfl, fun j hj => by
                      rcases (show j < 0 ∨ j = 0 from by omega) with h | rfl
                      · exact HN.out j h
                      · exact hv, HB1.out.alloc (by omega) _⟩
        case measure => simp [intOf]
    · go_wp2
      · have hv : v = 3 := (beq_iff_eq.1 (show (3 == v) = true by assumption)).symm
        refine bodyPost_ret (v := .tuple #[.agg #[.int .u16 17, .int .u8 3, .bool false], .bool true]) (by simp [results, Ybad.results5, go_sem, hz, z0, z1, z2]) rfl ⟨by rw [hv]; rfl, ?_⟩
        exact (((HB.out.setCell (Nat.le_refl _) _).setCell (Nat.le_refl _) _).setCell (Nat.le_refl _) _).alloc (by simp; omega) _
      · have hv : v ≠ 3 := fun e => (beq_eq_false_iff_ne.1 (show (3 == v) = false by assumption)) e.symm
        go_roundw
        case rel => exact ⟨2, by omega, rfl, fun j hj => by
                      rcases (show j < 1 ∨ j = 1 from by omega) with h | rfl
                      · exact HN.out j h
                      · exact hv, HB1.out.alloc (by omega) _⟩
        case measure => simp [intOf]
    · go_wp2
      · have hv : v = 4 := (beq_iff_eq.1 (show (4 == v) = true by assumption)).symm
        refine bodyPost_ret (v := .tuple #[.agg #[.int .u16 18, .int .u8 4, .bool true], .bool true]) (by simp [results, Ybad.results5, go_sem, hz, z0, z1, z2]) rfl ⟨by rw [hv]; rfl, ?_⟩
        exact (((HB.out.setCell (Nat.le_refl _) _).setCell (Nat.le_refl _) _).setCell (Nat.le_refl _) _).alloc (by simp; omega) _
      · have hv : v ≠ 4 := fun e => (beq_eq_false_iff_ne.1 (show (4 == v) = false by assumption)) e.symm
        go_roundw
        case rel => exact ⟨3, by omega, rfl, fun j hj => by
                      rcases (show j < 2 ∨ j = 2 from by omega) with h | rfl
                      · exact HN.out j h
                      · exact hv, HB1.out.alloc (by omega) _⟩
        case measure => simp [intOf]
    · go_wp2
      · have hv : v = 5 := (beq_iff_eq.1 (show (5 == v) = true by assumption)).symm
        refine bodyPost_ret (v := .tuple #[.agg #[.int .u16 22, .int .u8 5, .bool true], .bool true]) (by simp [results, Ybad.results5, go_sem, hz, z0, z1, z2]) rfl ⟨by rw [hv]; rfl, ?_⟩
        exact (((HB.out.setCell (Nat.le_refl _) _).setCell (Nat.le_refl _) _).setCell (Nat.le_refl _) _).alloc (by simp; omega) _
      · have hv : v ≠ 5 := fun e => (beq_eq_false_iff_ne.1 (show (5 == v) = false by assumption)) e.symm
        go_roundw
        case rel => exact ⟨4, by omega, rfl, fun j hj => by
                      rcases (show j < 3 ∨ j = 3 from by omega) with h | rfl
                      · exact HN.out j h
                      · exact hv, HB1.out.alloc (by omega) _⟩
        case measure => simp [intOf]
    · go_wp2
      refine bodyPost_ret (v := .tuple #[.agg #[.int .u16 0, .int .u8 0, .bool false], .bool false]) (by simp [results, Ybad.results5, go_sem, z0, z1, z2]) rfl ⟨?_, ?_⟩
      · have n0 := HN.out 0 (by omega)
        have n1 := HN.out 1 (by omega)
        have n2 := HN.out 2 (by omega)
        have n3 := HN.out 3 (by omega)
        simp only [vOf] at n0 n1 n2 n3
        simp [eF, n0, n1, n2, n3]
      · exact (((HB.out.setCell (Nat.le_refl _) _).setCell (Nat.le_refl _) _).setCell (Nat.le_refl _) _)
end Go.Proofs.YbulkktkDoor
