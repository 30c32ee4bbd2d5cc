import Derived.Test.YbulklayScriptB
import Derived.Deep.DeepCutAuto
import Derived.Deep.LoopGhost
import Derived.Deep.QuietTactic
import Derived.BigQuiet
namespace Go.Proofs.Ybulklay
open Go.RowKit
open Go.ChangeMaps (setBlock)

/-- The steps as they came in. -/
structure Ins (w : World) (a : Option Addr) (ss : List Step) : Prop where
  place : ∀ i s, ss[i]? = some s → ∃ b o, a = some ⟨b, o, none⟩ ∧ b < w.heap.size ∧ w.cell? ⟨b, o + i * 3, none⟩ = some (.int .u8 s.p) ∧ w.cell? ⟨b, o + i * 3 + 1, none⟩ = some (.int .u64 s.n) ∧ w.cell? ⟨b, o + i * 3 + 2, none⟩ = some s.val
  pb : ∀ s ∈ ss, 0 ≤ s.p ∧ s.p < 256
  nb : ∀ s ∈ ss, 0 ≤ s.n ∧ s.n < 18446744073709551616
  row : ∀ s ∈ ss, RowIn w s.a s.c s.z

/-- The state ahead of the first step, the first j cells of the third table set. -/
def Lay (w0 : World) (ss : List Step) (j : Nat) (wr : World) : Prop :=
  Core w0.heap.size w0 ss 0 wr (.slice none 0 0) (.slice none 0 0) [] [] (fun _ => none) ∧ Tab w0.heap.size wr (fun _ => none) (fun q m => if q * 4 + m < j then -1 else 0)

def laid (w : World) (big : Array Value) : World :=
  ((((((w.alloc (.cells #[.slice none 0 0] 54)).alloc (.cells #[.slice none 0 0] 55)).alloc (.map #[] 0)).alloc (.cells big 39)).alloc (.cells #[.bool false, .bool false, .bool false] 56)).alloc (.cells #[.int .u64 0, .int .u64 0, .int .u64 0] 57)).alloc
    (.cells #[.int .i64 0, .int .i64 0, .int .i64 0, .int .i64 0, .int .i64 0, .int .i64 0, .int .i64 0, .int .i64 0, .int .i64 0, .int .i64 0, .int .i64 0, .int .i64 0] 59)
def bigs (B : Nat) : Array Value := #[.int .i64 0, .int .i64 0, .int .i64 0, .string ⟨#[]⟩, .int .u8 0, .int .u8 0, .int .u8 0, .int .u8 0, .int .u8 0, .int .u8 0, .int .u8 0, .int .u8 0, .int .u8 0, .int .u8 0, .int .u8 0, .int .u8 0, .int .u8 0, .int .u8 0, .int .u8 0, .int .u8 0, .int .u8 0, .int .u8 0, .int .u8 0, .int .u8 0, .int .u8 0, .int .u8 0, .int .u8 0, .int .u8 0, .int .u8 0, .int .u8 0, .int .u8 0, .int .u8 0, .int .u8 0, .int .u8 0, .int .u8 0, .int .u8 0,
  .int .u64 0, .int .u64 0, .map none, .map (some (B + 1 + 1)), .int .u64 0, .int .u64 0, .slice none 0 0, .slice none 0 0, .map none, .map none, .nilIface, .slice none 0 0, clos B]
theorem laid_lay (w : World) (ss : List Step) (big : Array Value) (h39 : big[39]? = some (.map (some (w.heap.size + 1 + 1)))) (h48 : big[48]? = some (clos w.heap.size)) : Lay w ss 0 (laid w big) := by
  unfold laid
  generalize e1 : w.alloc (.cells #[.slice none 0 0] 54) = w1
  generalize e2 : w1.alloc (.cells #[.slice none 0 0] 55) = w2
  generalize e3 : w2.alloc (.map #[] 0) = w3
  generalize e4 : w3.alloc (.cells big 39) = w4
  generalize e5 : w4.alloc (.cells #[.bool false, .bool false, .bool false] 56) = w5
  generalize e6 : w5.alloc (.cells #[.int .u64 0, .int .u64 0, .int .u64 0] 57) = w6
  generalize e7 : w6.alloc (.cells #[.int .i64 0, .int .i64 0, .int .i64 0, .int .i64 0, .int .i64 0, .int .i64 0, .int .i64 0, .int .i64 0, .int .i64 0, .int .i64 0, .int .i64 0, .int .i64 0] 59) = w7
  have s1 : w1.heap.size = w.heap.size + 1 := by rw [← e1]; simp
  have s2 : w2.heap.size = w.heap.size + 2 := by rw [← e2]; simp [s1]
  have s3 : w3.heap.size = w.heap.size + 3 := by rw [← e3]; simp [s2]
  have s4 : w4.heap.size = w.heap.size + 4 := by rw [← e4]; simp [s3]
  have s5 : w5.heap.size = w.heap.size + 5 := by rw [← e5]; simp [s4]
  have s6 : w6.heap.size = w.heap.size + 6 := by rw [← e6]; simp [s5]
  have s7 : w7.heap.size = w.heap.size + 7 := by rw [← e7]; simp [s6]
  have k7 : ∀ k, k < w.heap.size + 6 → w7.heap[k]? = w6.heap[k]? := fun k hk => by rw [← e7]; exact Below.heap_alloc _ _ _ (by omega)
  have k6 : ∀ k, k < w.heap.size + 5 → w7.heap[k]? = w5.heap[k]? := fun k hk => by rw [k7 k (by omega), ← e6]; exact Below.heap_alloc _ _ _ (by omega)
  have k5 : ∀ k, k < w.heap.size + 4 → w7.heap[k]? = w4.heap[k]? := fun k hk => by rw [k6 k (by omega), ← e5]; exact Below.heap_alloc _ _ _ (by omega)
  have k4 : ∀ k, k < w.heap.size + 3 → w7.heap[k]? = w3.heap[k]? := fun k hk => by rw [k5 k (by omega), ← e4]; exact Below.heap_alloc _ _ _ (by omega)
  have k3 : ∀ k, k < w.heap.size + 2 → w7.heap[k]? = w2.heap[k]? := fun k hk => by rw [k4 k (by omega), ← e3]; exact Below.heap_alloc _ _ _ (by omega)
  have k2 : ∀ k, k < w.heap.size + 1 → w7.heap[k]? = w1.heap[k]? := fun k hk => by rw [k3 k (by omega), ← e2]; exact Below.heap_alloc _ _ _ (by omega)
  have hbel : Below w.heap.size w w7 := by
    refine ⟨?_, ?_, ?_, by omega, fun k hk => ?_⟩
    · rw [← e7, ← e6, ← e5, ← e4, ← e3, ← e2, ← e1]; rfl
    · rw [← e7, ← e6, ← e5, ← e4, ← e3, ← e2, ← e1]; rfl
    · rw [← e7, ← e6, ← e5, ← e4, ← e3, ← e2, ← e1]; rfl
    · rw [k2 k (by omega), ← e1]; exact Below.heap_alloc _ _ _ hk
  have hbig : w7.heap[w.heap.size + 3]? = some (.cells big 39 (0, 0)) := by
    rw [k5 _ (by omega), ← s3, ← e4]; exact heap_alloc_new _ _
  refine ⟨⟨hbel, ?_, World.ownsRow_nil _ _ _ _, fun j hj => by omega, ?_, World.ownsRow_nil _ _ _ _, ?_, ?_, ?_, fun q => rfl, (fun _ _ e => by cases e), (fun _ _ _ _ _ e => by cases e), by omega⟩, ⟨?_, ?_, ?_⟩⟩
  · rw [k2 _ (by omega), ← e1]; exact heap_alloc_new _ _
  · rw [k3 _ (by omega), ← s1, ← e2]; exact heap_alloc_new _ _
  · rw [k4 _ (by omega), ← s2, ← e3]; exact heap_alloc_new _ _
  · simp only [World.cell?, hbig]; simpa using h39
  · simp only [World.cell?, hbig]; simpa using h48
  · refine ⟨_, by rw [k6 _ (by omega), ← s4, ← e5]; exact heap_alloc_new _ _, fun q hq => ?_⟩
    rcases (show q = 0 ∨ q = 1 ∨ q = 2 by omega) with rfl | rfl | rfl <;> rfl
  · refine ⟨_, by rw [k7 _ (by omega), ← s5, ← e6]; exact heap_alloc_new _ _, fun q hq => ?_⟩
    rcases (show q = 0 ∨ q = 1 ∨ q = 2 by omega) with rfl | rfl | rfl <;> rfl
  · refine ⟨_, by rw [← s6, ← e7]; exact heap_alloc_new _ _, fun q m hq hm => ?_⟩
    rcases (show q = 0 ∨ q = 1 ∨ q = 2 by omega) with rfl | rfl | rfl <;> rcases (show m = 0 ∨ m = 1 ∨ m = 2 ∨ m = 3 by omega) with rfl | rfl | rfl | rfl <;> rfl
theorem Lay.cell {w0 : World} {ss : List Step} {j : Nat} {wr : World} (h : Lay w0 ss j wr) {q m : Nat} (hq : q < 3) (hm : m < 4) :
    (∃ v, wr.cell? ⟨w0.heap.size + 6, q * 4 + m, none⟩ = some (.int .i64 v)) ∧ wr.frozen? ⟨w0.heap.size + 6, q * 4 + m, none⟩ = false := by
  obtain ⟨c, e, d⟩ := h.2.t6
  exact ⟨⟨if q * 4 + m < j then -1 else 0, by simp [World.cell?, e, d q m hq hm]⟩, by simp [World.frozen?, e]⟩
theorem Lay.step {w0 : World} {ss : List Step} {j : Nat} {wr : World} (h : Lay w0 ss j wr) {q m : Nat} (hq : q < 3) (hm : m < 4) (hj : j = q * 4 + m) : Lay w0 ss (j + 1) (wr.setCell ⟨w0.heap.size + 6, q * 4 + m, none⟩ (.int .i64 (-1))) := by
  obtain ⟨hc, ht⟩ := h
  refine ⟨hc.moved rfl rfl rfl (by simp [World.setCell]) (fun k hk => Below.heap_setCell _ _ _ _ (by show k ≠ w0.heap.size + 6; omega)) ht.not5, ⟨?_, ?_, ?_⟩⟩
  · obtain ⟨c, e, d⟩ := ht.t4
    exact ⟨c, (Below.heap_setCell _ _ _ _ (by show w0.heap.size + 4 ≠ w0.heap.size + 6; omega)).trans e, d⟩
  · obtain ⟨c, e, d⟩ := ht.t5
    exact ⟨c, (Below.heap_setCell _ _ _ _ (by show w0.heap.size + 5 ≠ w0.heap.size + 6; omega)).trans e, d⟩
  · obtain ⟨c, e, d⟩ := ht.t6
    refine ⟨_, heap_set e, fun r k hr hk => ?_⟩
    rw [Array.getElem?_setIfInBounds]
    have hl : q * 4 + m < c.size := (Array.getElem?_eq_some_iff.1 (d q m hq hm)).1
    by_cases hrk : r * 4 + k = j
    · rw [if_pos (by omega), if_pos hl, if_pos (by omega)]
    · rw [if_neg (by omega), d r k hr hk]
      by_cases h1 : r * 4 + k < j
      · rw [if_pos h1, if_pos (by omega)]
      · rw [if_neg h1, if_neg (by omega)]
theorem Lay.all {w0 : World} {ss : List Step} {wr : World} (h : Lay w0 ss 12 wr) : All w0.heap.size w0 ss 0 wr := by
  obtain ⟨hc, ht⟩ := h
  refine ⟨_, _, _, _, _, fun _ _ => -1, hc, ⟨ht.t4, ht.t5, ?_⟩, ⟨fun _ _ _ => rfl, (fun _ _ _ e => by cases e), (fun _ _ e => by cases e)⟩⟩
  obtain ⟨c, e, d⟩ := ht.t6
  exact ⟨c, e, fun q m hq hm => by rw [d q m hq hm, if_pos (by omega)]⟩


theorem cnt_le (f : Nat → Int) : ∀ m, cnt f m ≤ m
  | 0 => Nat.le_refl _
  | m + 1 => by
    have := cnt_le f m
    unfold cnt
    split <;> omega
theorem All.drewN {B : Nat} {w0 : World} {ss : List Step} {i : Nat} {W : World} (h : All B w0 ss i W) (n : Nat) : All B w0 ss i (W.drewN n) := by
  obtain ⟨rv, wv, rl, es, own, ix, hC, hT, hTi⟩ := h
  exact ⟨rv, wv, rl, es, own, ix, hC.moved rfl rfl rfl rfl (fun _ _ => rfl) hT.not5, hT.moved (fun _ _ _ => rfl), hTi⟩
theorem All.bel {B : Nat} {w0 : World} {ss : List Step} {i : Nat} {W : World} (h : All B w0 ss i W) : Below B w0 W := by
  obtain ⟨rv, wv, rl, es, own, ix, hC, hT, hTi⟩ := h
  exact hC.bel
theorem All.len {B : Nat} {w0 : World} {ss : List Step} {i : Nat} {W : World} (h : All B w0 ss i W) : ∃ ra rcap, W.cell? ⟨B, 0, none⟩ = some (.slice ra i rcap) := by
  obtain ⟨rv, wv, rl, es, own, ix, hC, hT, hTi⟩ := h
  have h0 := hC.recs
  rcases hC.rrow.2 with ⟨rfl, rfl⟩ | ⟨g, cap, cur, rfl, _⟩
  · exact ⟨none, 0, by simp [World.cell?, h0]⟩
  · exact ⟨_, cap, by simp [World.cell?, h0]; rfl⟩
/-- What the fifth loop reads. -/
theorem All.five {B : Nat} {w0 : World} {ss : List Step} {i : Nat} {W : World} (h : All B w0 ss i W) {j : Nat} (hj : j < i) :
    ∃ rg rcap wg wcap g cap s, W.cell? ⟨B, 0, none⟩ = some (.slice (some ⟨rg, 0, none⟩) i rcap) ∧ W.cell? ⟨rg, j, none⟩ = some (.slice (some ⟨g, 0, none⟩) (10 + s.z.length) cap) ∧ ss[j]? = some s ∧
      RowIn W (some ⟨g, 0, none⟩) cap (recOf (s.p % 3) (s.n % 4) s.z) ∧ W.cell? ⟨B + 1, 0, none⟩ = some (.slice (some ⟨wg, 0, none⟩) i wcap) ∧ W.cell? ⟨wg, j, none⟩ = some (.string due) := by
  obtain ⟨rv, wv, rl, es, own, ix, hC, hT, hTi⟩ := h
  obtain ⟨k, rfl⟩ : ∃ k, i = k + 1 := ⟨i - 1, by omega⟩
  obtain ⟨rg, rcap, rfl⟩ := ownsRow_slice hC.rrow
  obtain ⟨wg, wcap, rfl⟩ := ownsRow_slice hC.wrow
  obtain ⟨v, s, e1, e2, g, cap, cur, rfl, hr, _⟩ := hC.rok j hj
  have h0 := hC.recs
  have h1 := hC.whens
  refine ⟨rg, rcap, wg, wcap, g, cap, s, by simp [World.cell?, h0], ?_, e2, hr, by simp [World.cell?, h1], ?_⟩
  · rw [hC.rrow.cellAt j (by omega)]; exact e1
  · rw [hC.wrow.cellAt j (by omega), List.getElem?_replicate, if_pos hj]
end Go.Proofs.Ybulklay
