import Derived.Test.YbulkktkFmtShelf
import Derived.WalkKit
import Derived.WalkSpells
import Derived.Below
import Derived.Lib.FrozenHead2
import Derived.Lib.OthersKept
namespace Go.Proofs.YbulkktkFmt
open Go.RowKit

theorem infoByte : (Ybaf.prog.info? 5).map (fun i => (i.zero, i.size, i.bytes)) = some (some (.int .u8 0), 1, 1) := by kernel_rfl

/-- copyCheck: behind it the builder is used; its bytes are as they were; a row of bytes elsewhere stands. -/
theorem copyCheck_calls (B b : Nat) (bs : List Value) (w : World) (h : Lib.IsBuilderF 31 5 B b bs w) :
    Calls Ybaf.prog 11 #[.pointer (some ⟨b, 0, none⟩)] w fun e w' => e = .returned (.tuple #[]) ∧ (Lib.BuilderAtF 31 5 B b (.pointer (some ⟨b, 0, none⟩)) bs w' ∧ Below B w w' ∧ ∀ k, k ≠ b → w'.heap[k]? = w.heap[k]?) := by
  rcases h with h | h
  · refine (Ybaf.copyCheck_fresh b w h.cell0 h.shape h.frozen0).mono ?_
    rintro e w' ⟨rfl, rfl⟩
    exact ⟨rfl, h.used _, (Below.refl B w).setCell (p := ⟨b, 0, none⟩) h.1 _, fun k hk => Below.heap_setCell _ _ _ _ hk⟩
  · refine (Ybaf.copyCheck_used b w h.cell0).mono ?_
    rintro e w' ⟨rfl, rfl⟩
    exact ⟨rfl, h, Below.refl B _, fun _ _ => rfl⟩

theorem writeByte_calls (B b : Nat) (bs : List Value) (c : Int) (w : World) (h : Lib.IsBuilderF 31 5 B b bs w) (hlen : bs.length + 1 ≤ 140737488355328) (hBw : B ≤ w.heap.size) :
    Calls Ybaf.prog 8 #[.pointer (some ⟨b, 0, none⟩), .int .u8 c] w fun e w' => e = .returned .nilIface ∧ (Lib.IsBuilderF 31 5 B b (bs ++ [.int .u8 c]) w' ∧ Below B w w') :=
  (Ybaf.writeByte_k B b bs c w h hlen hBw).mono fun _ _ ⟨he, h1, h2, _⟩ => ⟨he, .inr h1, h2⟩

set_option maxHeartbeats 2000000 in
set_option maxRecDepth 100000 in
/-- (*strings.Builder).Write of a slice whose row is another block than the builder's. -/
theorem write_calls (B b : Nat) (bs : List Value) (ad : Addr) (m c : Nat) (news : List Value) (w : World) (h : Lib.IsBuilderF 31 5 B b bs w)
    (hl : news.length = m) (hnews : ∀ j u, news[j]? = some u → w.cell? (ad.add j) = some u) (hadB : ad.block ≠ b) (h1 : ∀ u ∈ news, u.oneCell' = true)
    (hlen : bs.length + m ≤ 140737488355328) (hBw : B ≤ w.heap.size) :
    Calls Ybaf.prog 30 #[.pointer (some ⟨b, 0, none⟩), .slice (some ad) m c] w fun e w' => e = .returned (.tuple #[.int .i64 m, .nilIface]) ∧ (Lib.IsBuilderF 31 5 B b (bs ++ news) w' ∧ Below B w w') := by
  obtain ⟨i0, hi, hz0, hz1, hz2⟩ := info_parts infoByte
  go_enter Ybaf.func30, Ybaf.ntmps30
  go_wp2_with (go_at_call 11; refine (copyCheck_calls B b bs _ h).mono ?_)
  rintro e w1 ⟨rfl, h1', hb1, hk1⟩
  obtain ⟨hB, v, hbk, hown, hne⟩ := h1'
  have c0 : w1.cell? ⟨b, 0, none⟩ = some (.pointer (some ⟨b, 0, none⟩)) := by rw [Lib.cell_of_heap hbk]; rfl
  have c1 : w1.cell? ⟨b, 1, none⟩ = some v := by rw [Lib.cell_of_heap hbk]; rfl
  have hnews1 : ∀ j u, news[j]? = some u → w1.cell? (ad.add j) = some u := fun j u hj => by
    rw [World.cell?_of_block (w := w) (hk1 (ad.add j).block (by unfold Addr.add; split <;> exact hadB))]; exact hnews j u hj
  clear hk1 hnews
  have HN : Hid (∀ j u, news[j]? = some u → w1.cell? (ad.add j) = some u) := hnews1
  clear hnews1
  go_wp2_with (at_builtin; refine wpList_append_ownF _ rfl _ _ 23 rfl B 5 i0 (.int .u8 0) 1 1 Ybaf.underlying23 hi hz0 hz1 hz2 rfl (by decide) _ _ _ rfl hown ad m c news rfl (by omega) HN.out h1 ?c3 ?c4 ?c5 ?_)
  case c3 => unfold maxLen; omega
  case c4 => omega
  case c5 => have := hb1.size; omega
  intro v' w2 hown' hgrow _
  have hlt : b < w1.heap.size := by
    rcases Nat.lt_or_ge b w1.heap.size with h' | h'
    · exact h'
    · simp [Array.getElem?_eq_none h'] at hbk
  have hb2 : w2.heap[b]? = some (.cells #[.pointer (some ⟨b, 0, none⟩), v] 31 (0, 0)) := by
    rw [hgrow.block b hlt (fun e => hne e.symm)]
    exact hbk
  have d0 : w2.cell? ⟨b, 0, none⟩ = some (.pointer (some ⟨b, 0, none⟩)) := by rw [Lib.cell_of_heap hb2]; rfl
  have d1 : w2.cell? ⟨b, 1, none⟩ = some v := by rw [Lib.cell_of_heap hb2]; rfl
  have f1 : w2.frozen? ⟨b, 1, none⟩ = false := Lib.frozen_of_heap hb2 1
  obtain ⟨ao, n', cap, rfl⟩ : ∃ ao n' cap, v' = .slice ao n' cap := by
    rcases hown'.2 with ⟨hv, _⟩ | ⟨g, cap, cur, fz, hv, _⟩
    · exact ⟨_, _, _, hv⟩
    · exact ⟨_, _, _, hv⟩
  go_wp2
  go_ret2
  refine ⟨rfl, .inr ?_, ?_⟩
  · exact Lib.BuilderAtF.put (T := 31) (e := 5) hB hb2 (bs' := bs ++ news) (by simpa [hl] using hown') (by decide)
  · exact (hb1.grown hgrow (by have := hb1.size; omega) (fun k hk => (hown.lt k hk).1)).setCell (p := ⟨b, 1, none⟩) hB _
end Go.Proofs.YbulkktkFmt
