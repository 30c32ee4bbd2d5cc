import Derived.Test.YbulklaySingle
import Derived.WalkSmall
namespace Go.Proofs.Ybulklay
open Go.RowKit
open Go.ChangeMaps (setBlock)

theorem ready_start (w : World) (big : Array Value) (h39 : big[39]? = some (.map (some (w.heap.size + 1 + 1 + 1)))) (h48 : big[48]? = some (clo w.heap.size)) :
    Ready w.heap.size [] w (((((w.alloc (.cells #[.int .i64 0] 3)).alloc (.cells #[.slice none 0 0] 23)).alloc (.cells #[.string ⟨#[]⟩] 24)).alloc (.map #[] 0)).alloc (.cells big 39)) := by
  have s1 : (w.alloc (.cells #[.int .i64 0] 3)).heap.size = w.heap.size + 1 := by simp
  have s2 : ((w.alloc (.cells #[.int .i64 0] 3)).alloc (.cells #[.slice none 0 0] 23)).heap.size = w.heap.size + 1 + 1 := by simp
  have s3 : (((w.alloc (.cells #[.int .i64 0] 3)).alloc (.cells #[.slice none 0 0] 23)).alloc (.cells #[.string ⟨#[]⟩] 24)).heap.size = w.heap.size + 1 + 1 + 1 := by simp
  have s4 : ((((w.alloc (.cells #[.int .i64 0] 3)).alloc (.cells #[.slice none 0 0] 23)).alloc (.cells #[.string ⟨#[]⟩] 24)).alloc (.map #[] 0)).heap.size = w.heap.size + 1 + 1 + 1 + 1 := by simp
  have hlast : (((((w.alloc (.cells #[.int .i64 0] 3)).alloc (.cells #[.slice none 0 0] 23)).alloc (.cells #[.string ⟨#[]⟩] 24)).alloc (.map #[] 0)).alloc (.cells big 39)).heap[w.heap.size + 1 + 1 + 1 + 1]? = some (.cells big 39 (0, 0)) := by
    rw [← s4]; exact heap_alloc_new _ _
  refine ⟨?_, ?_, ?_, ?_, ?_, ?_, ?_⟩
  · rw [Below.heap_alloc _ _ _ (by omega), Below.heap_alloc _ _ _ (by omega), Below.heap_alloc _ _ _ (by omega), Below.heap_alloc _ _ _ (by omega)]; exact heap_alloc_new _ _
  · rw [Below.heap_alloc _ _ _ (by omega), Below.heap_alloc _ _ _ (by omega), Below.heap_alloc _ _ _ (by omega), ← s1]; exact heap_alloc_new _ _
  · rw [Below.heap_alloc _ _ _ (by omega), Below.heap_alloc _ _ _ (by omega), ← s2]; exact heap_alloc_new _ _
  · rw [Below.heap_alloc _ _ _ (by omega), ← s3]; exact heap_alloc_new _ _
  · simp only [World.cell?, hlast]; simpa using h39
  · simp only [World.cell?, hlast]; simpa using h48
  · exact (((((Below.refl _ _).alloc (Nat.le_refl _) _).alloc (by omega) _).alloc (by omega) _).alloc (by omega) _).alloc (by omega) _

theorem single_started_new (B : Nat) (es : Es) (p num : Int) (ao : Option Addr) (cp : Nat) (zs : List Int) (w0 w : World) (hr : Ready B es w0 w) (hg : get es p = none) (hval : RowIn w ao cp zs) (hav : ∀ g, ao = some g → 0 < zs.length → g.block < B)
    (hp0 : 0 ≤ p) (hp1 : p < 256) (h0 : 0 ≤ num) (h1 : num < 18446744073709551616) (hl : zs.length ≤ 1000000) :
    Calls Yba.prog 7 #[.pointer (some ⟨B + 1 + 1 + 1 + 1, 0, none⟩), .int .u8 p, .int .u64 num, .slice ao zs.length cp] w fun e w' => e = .returned (.tuple #[]) ∧
      ∃ oB vB, Done B (put es p (.pointer (some ⟨oB, 0, none⟩))) oB vB 0 1 (put [] num (.slice ao zs.length cp)) p num zs w0 w' := by
  have hs : B + 1 + 1 + 1 + 1 < w.heap.size := World.block_lt_of_cell? _ _ hr.map
  have s1 : (w.alloc (.map #[] 0)).heap.size = w.heap.size + 1 := by simp
  have kk : ∀ k, k < w.heap.size → k ≠ B + 1 + 1 + 1 → (ownedNew w (B + 1 + 1 + 1) es p).heap[k]? = w.heap[k]? := by
    intro k hk hne
    unfold ownedNew
    rw [setBlock_other hne, Below.heap_alloc _ _ _ (by omega), Below.heap_alloc _ _ _ hk]
  have sz : (ownedNew w (B + 1 + 1 + 1) es p).heap.size = w.heap.size + 1 + 1 := by unfold ownedNew; rw [setBlock_size]; simp
  have hbel : Below B w (ownedNew w (B + 1 + 1 + 1) es p) := ⟨rfl, rfl, rfl, by omega, fun k hk => kk k (by omega) (by omega)⟩
  refine (single_started B (w.heap.size + 1) w.heap.size (put es p (.pointer (some ⟨w.heap.size + 1, 0, none⟩))) 0 0 1 p num [] ao cp zs w0 w (ownedNew w (B + 1 + 1 + 1) es p)
    (owned_new (B + 1 + 1 + 1 + 1) (B + 1 + 1 + 1) es p w hr.map hr.own hg) ?_ ?_ ?_ (by omega) (by omega) ?_ hav hp0 hp1 h0 h1 hl).mono ?_
  · refine ⟨(kk _ (by omega) (by omega)).trans hr.calls, (kk _ (by omega) (by omega)).trans hr.got, (kk _ (by omega) (by omega)).trans hr.when, ?_, ?_, ?_, hr.bel.trans hbel⟩
    · unfold ownedNew
      exact setBlock_at (by simp; omega)
    · exact (World.cell?_of_block (a := ⟨B + 1 + 1 + 1 + 1, 39, none⟩) (kk (B + 1 + 1 + 1 + 1) (by omega) (by omega))).trans hr.map
    · exact (World.cell?_of_block (a := ⟨B + 1 + 1 + 1 + 1, 48, none⟩) (kk (B + 1 + 1 + 1 + 1) (by omega) (by omega))).trans hr.fn
  · unfold ownedNew
    rw [setBlock_other (by omega), ← s1]
    exact heap_alloc_new _ _
  · unfold ownedNew
    rw [setBlock_other (by omega), Below.heap_alloc _ _ _ (by omega)]
    exact heap_alloc_new _ _
  · exact hval.moved fun g hg hn => kk _ (by have := hav g hg hn; omega) (by have := hav g hg hn; omega)
  · rintro e w' ⟨rfl, hd, _⟩
    exact ⟨rfl, _, _, hd⟩

set_option maxHeartbeats 1000000 in
set_option maxRecDepth 100000 in
theorem single_new (p num : Int) (ao : Option Addr) (cp : Nat) (zs : List Int) (q1 q2 q3 q4 : Int) (a8 : Option Addr) (l8 c8 : Nat) (w : World) (hval : RowIn w ao cp zs) (hl : zs.length ≤ 4096) (hl8 : l8 ≤ 4096)
    (hp0 : 0 ≤ p) (hp1 : p < 256) (h0 : 0 ≤ num) (h1 : num < 18446744073709551616) :
    Calls Yba.prog 3 #[.int .u8 p, .int .u64 num, .slice ao zs.length cp, .bool false, .int .u64 q1, .int .u64 q2, .int .u64 q3, .int .u64 q4, .slice a8 l8 c8] w fun e w' => e = .returned (.bool true) ∧ Below w.heap.size w w' := by
  have hmm := @run_makeMap Yba.prog
  have HV := hid hval
  have HA := hid hval.lt
  clear hval
  go_enter Yba.func3, Yba.ntmps3
  go_wp2_with fail
  refine (single_started_new w.heap.size [] p num ao cp zs w _ (ready_start w _ rfl rfl) rfl ?_ HA.out hp0 hp1 h0 h1 (by omega)).mono ?_
  · exact HV.out.moved fun g hg hn => (ready_start w _ rfl rfl).bel.block _ (HA.out g hg hn)
  rintro e wd ⟨rfl, oB, vB, hd⟩
  have HBD := hid hd.bel
  have hval : RowIn wd ao cp zs := HV.out.moved fun g hg hn => hd.bel.block _ (HA.out g hg hn)
  obtain ⟨g, cap, hgot, hrec⟩ := hd.got
  have k1 := hd.calls
  have k2 := hd.when
  have k3 := hd.map
  have o0 : wd.cell? ⟨oB, 0, none⟩ = some (.int .u64 num) := by simp [World.cell?, hd.ob]
  have o1 : wd.cell? ⟨oB, 1, none⟩ = some (.int .u64 0) := by simp [World.cell?, hd.ob]
  have o2 : wd.cell? ⟨oB, 2, none⟩ = some (.int .u64 1) := by simp [World.cell?, hd.ob]
  have o3 : wd.cell? ⟨oB, 3, none⟩ = some (.map (some vB)) := by simp [World.cell?, hd.ob]
  have l1 := run_look (P := Yba.prog) Yba.underlying26 Yba.underlying40 hd.own p (Yba.zeroValue41 wd) false
  rw [get_put, if_pos rfl] at l1
  simp only [Bool.false_eq_true, if_false, Option.getD_some] at l1
  have n1 := fun ty => run_mlen (P := Yba.prog) Yba.underlying26 hd.own ty
  simp only [put, List.length_cons, List.length_nil] at n1
  have l2 := run_look (P := Yba.prog) Yba.underlying43 Yba.underlying22 hd.vb num (Yba.zeroValue23 wd) true
  rw [get_put, if_pos rfl] at l2
  simp only [if_true, Option.getD_some, Option.isSome_some] at l2
  have n2 := fun ty => run_mlen (P := Yba.prog) Yba.underlying43 hd.vb ty
  simp only [put, List.length_cons, List.length_nil] at n2
  have HEQ := hid (equal_calls zs ao ao cp cp wd hval hval)
  have HAR := hid (arec_calls p num zs g 0 cap ao cp wd hrec hval h0 h1 (by omega))
  clear hd hrec hval HV HA
  unfold due at k2
  go_wp2_with fail
  refine HEQ.out.mono ?_
  rintro e wx ⟨rfl, hwx⟩
  subst hwx
  go_wp2_with fail
  refine HAR.out.mono ?_
  rintro e wz ⟨rfl, n, rfl⟩
  go_wp2
  go_ret
  exact ⟨rfl, below_drewN HBD.out n⟩
end Go.Proofs.Ybulklay
