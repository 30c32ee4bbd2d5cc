import Derived.Test.YbulklaySingleA
import Derived.Deep.DeepCutAuto
import Derived.Deep.RegionWith
namespace Go.Proofs.Ybulklay
open Go.RowKit
open Go.ChangeMaps (setBlock)

def big (B : Nat) : Array Value := #[.int .i64 0, .int .i64 0, .int .i64 0, .string ⟨#[]⟩, .int .u8 0, .int .u8 0, .int .u8 0, .int .u8 0, .int .u8 0, .int .u8 0, .int .u8 0, .int .u8 0, .int .u8 0, .int .u8 0, .int .u8 0, .int .u8 0, .int .u8 0, .int .u8 0, .int .u8 0, .int .u8 0, .int .u8 0, .int .u8 0, .int .u8 0, .int .u8 0, .int .u8 0, .int .u8 0, .int .u8 0, .int .u8 0, .int .u8 0, .int .u8 0, .int .u8 0, .int .u8 0, .int .u8 0, .int .u8 0, .int .u8 0, .int .u8 0,
  .int .u64 0, .int .u64 0, .map none, .map (some (B + 1 + 1 + 1)), .int .u64 0, .int .u64 0, .slice none 0 0, .slice none 0 0, .map none, .map none, .nilIface, .slice none 0 0, clo B]
def start (w : World) : World := (((((w.alloc (.cells #[.int .i64 0] 3)).alloc (.cells #[.slice none 0 0] 23)).alloc (.cells #[.string ⟨#[]⟩] 24)).alloc (.map #[] 0)).alloc (.cells (big w.heap.size) 39))
theorem start_ready (w : World) : Ready w.heap.size [] w (start w) := ready_start w _ rfl rfl
theorem start_size (w : World) : (start w).heap.size = w.heap.size + 1 + 1 + 1 + 1 + 1 := by simp [start]

/-- The world behind the laying of the earlier record. -/
structure Pre (B : Nat) (p q1 q2 q3 q4 : Int) (oB vB : Nat) (a' : Option Addr) (c' : Nat) (z8 : List Int) (w0 wr : World) : Prop where
  ready : Ready B [(p, .pointer (some ⟨oB, 0, none⟩))] w0 wr
  ob : wr.heap[oB]? = some (.cells #[.int .u64 q1, .int .u64 q2, .int .u64 q3, .map (some vB)] 45 (0, 0))
  vb : wr.heap[vB]? = some (mobj .u64 [(q4, .slice a' z8.length c')])
  hob : B + 1 + 1 + 1 + 1 < oB
  hvb : B + 1 + 1 + 1 + 1 < vB
  row : RowIn wr a' c' z8
  far : ∀ g, a' = some g → B + 1 + 1 + 1 + 1 < g.block ∧ g.block ≠ oB ∧ g.block ≠ vB ∧ g.block < wr.heap.size

theorem Ready.moved {B : Nat} {es : Es} {w0 w w' : World} (h : Ready B es w0 w) (hk : ∀ k, k < B + 1 + 1 + 1 + 1 + 1 → w'.heap[k]? = w.heap[k]?) (hb : Below B w w') : Ready B es w0 w' :=
  ⟨(hk _ (by omega)).trans h.calls, (hk _ (by omega)).trans h.got, (hk _ (by omega)).trans h.when, (hk _ (by omega)).trans h.own,
    (World.cell?_of_block (a := ⟨B + 1 + 1 + 1 + 1, 39, none⟩) (hk (B + 1 + 1 + 1 + 1) (by omega))).trans h.map, (World.cell?_of_block (a := ⟨B + 1 + 1 + 1 + 1, 48, none⟩) (hk (B + 1 + 1 + 1 + 1) (by omega))).trans h.fn, h.bel.trans hb⟩

/-- The last two steps: the record is boxed, and stored under the proto. -/
theorem pre_fin (B : Nat) (p q1 q2 q3 q4 : Int) (vB : Nat) (a' : Option Addr) (c' : Nat) (z8 : List Int) (w0 W3 : World) (hr : Ready B [] w0 W3) (hv : W3.heap[vB]? = some (mobj .u64 [(q4, .slice a' z8.length c')])) (hvB : B + 1 + 1 + 1 + 1 < vB) (hrow : RowIn W3 a' c' z8)
    (hfar : ∀ g, a' = some g → B + 1 + 1 + 1 + 1 < g.block ∧ g.block ≠ vB ∧ g.block < W3.heap.size) :
    ∃ W4, (Instr.mapUpdate 26 (.map (some (B + 1 + 1 + 1))) (.int .u8 p) (.pointer (some ⟨W3.heap.size, 0, none⟩))).run Yba.prog (W3.alloc (.cells #[.int .u64 q1, .int .u64 q2, .int .u64 q3, .map (some vB)] 45)) = .ok () W4 ∧ Pre B p q1 q2 q3 q4 W3.heap.size vB a' c' z8 w0 W4 := by
  have hs : B + 1 + 1 + 1 + 1 < W3.heap.size := World.block_lt_of_cell? _ _ hr.map
  have hvs : vB < W3.heap.size := (Array.getElem?_eq_some_iff.1 hv).1
  refine ⟨_, run_update Yba.underlying26 Yba.underlying40 (es := []) (by rw [Below.heap_alloc _ _ _ (by omega)]; exact hr.own) p _, ?_⟩
  have kk : ∀ k, k < W3.heap.size → k ≠ B + 1 + 1 + 1 → (setBlock (W3.alloc (.cells #[.int .u64 q1, .int .u64 q2, .int .u64 q3, .map (some vB)] 45)) (B + 1 + 1 + 1) (mobj .u8 (put [] p (.pointer (some ⟨W3.heap.size, 0, none⟩))))).heap[k]? = W3.heap[k]? := by
    intro k hk hne
    rw [setBlock_other hne, Below.heap_alloc _ _ _ hk]
  refine ⟨⟨(kk _ (by omega) (by omega)).trans hr.calls, (kk _ (by omega) (by omega)).trans hr.got, (kk _ (by omega) (by omega)).trans hr.when, setBlock_at (by simp; omega),
    (World.cell?_of_block (a := ⟨B + 1 + 1 + 1 + 1, 39, none⟩) (kk (B + 1 + 1 + 1 + 1) (by omega) (by omega))).trans hr.map, (World.cell?_of_block (a := ⟨B + 1 + 1 + 1 + 1, 48, none⟩) (kk (B + 1 + 1 + 1 + 1) (by omega) (by omega))).trans hr.fn,
    hr.bel.trans ⟨rfl, rfl, rfl, by rw [setBlock_size]; simp, fun k hk => kk k (by omega) (by omega)⟩⟩, ?_, (kk _ hvs (by omega)).trans hv, by omega, hvB, hrow.moved fun g hg _ => kk _ (hfar g hg).2.2 (by have := hfar g hg; omega), fun g hg => ?_⟩
  · rw [setBlock_other (by omega)]
    exact heap_alloc_new _ _
  · have := hfar g hg
    rw [setBlock_size]
    simp
    omega

theorem pre_one (p q1 q2 q3 q4 : Int) (a' : Option Addr) (c' : Nat) (z8 : List Int) {w U w2 : World} (hr : Ready w.heap.size [] w U) (hs : U.heap.size = w.heap.size + 1 + 1 + 1 + 1 + 1) (hrow : RowIn w2 a' c' z8) (hfl : ∀ g, a' = some g → g.block < w2.heap.size)
    (hga : ∀ g, a' = some g → (U.alloc (.map #[] 0)).drew.heap.size ≤ g.block) (hbl : Below (U.alloc (.map #[] 0)).drew.heap.size (U.alloc (.map #[] 0)).drew w2) :
    ∃ W3 W4, (Instr.mapUpdate 43 (.map (some U.heap.size)) (.int .u64 q4) (.slice a' z8.length c')).run Yba.prog w2 = .ok () W3 ∧
      (Instr.mapUpdate 26 (.map (some (w.heap.size + 1 + 1 + 1))) (.int .u8 p) (.pointer (some ⟨W3.heap.size, 0, none⟩))).run Yba.prog (W3.alloc (.cells #[.int .u64 q1, .int .u64 q2, .int .u64 q3, .map (some U.heap.size)] 45)) = .ok () W4 ∧
      Pre w.heap.size p q1 q2 q3 q4 W3.heap.size U.heap.size a' c' z8 w W4 ∧ (w2.cell? ⟨w.heap.size + 1 + 1 + 1 + 1, 39, none⟩ = some (.map (some (w.heap.size + 1 + 1 + 1))) ∧ W3.cell? ⟨w.heap.size + 1 + 1 + 1 + 1, 39, none⟩ = some (.map (some (w.heap.size + 1 + 1 + 1)))) ∧ w.heap.size + 1 + 1 + 1 + 1 < w2.heap.size ∧ w.heap.size + 1 + 1 + 1 + 1 < W3.heap.size := by
  have hss : (U.alloc (.map #[] 0)).drew.heap.size = U.heap.size + 1 := by show (U.alloc (.map #[] 0)).heap.size = _; simp
  have hx : w2.heap[U.heap.size]? = some (mobj .u64 []) := by
    rw [hbl.block U.heap.size (by omega)]
    exact heap_alloc_new U _
  have hw2 := hbl.size
  rw [hss] at hw2
  obtain ⟨W3, hW3⟩ : ∃ W3, setBlock w2 U.heap.size (mobj .u64 (put [] q4 (.slice a' z8.length c'))) = W3 := ⟨_, rfl⟩
  have kk : ∀ k, k ≠ U.heap.size → W3.heap[k]? = w2.heap[k]? := fun k hk => by rw [← hW3]; exact setBlock_other hk
  have s3 : W3.heap.size = w2.heap.size := by rw [← hW3]; exact setBlock_size _ _ _
  have ku : ∀ k, k < U.heap.size → W3.heap[k]? = U.heap[k]? := fun k hk => by
    rw [kk k (by omega), hbl.block k (by omega)]
    exact Below.heap_alloc U _ k hk
  obtain ⟨W4, h4, hP⟩ := pre_fin w.heap.size p q1 q2 q3 q4 U.heap.size a' c' z8 w W3
    (hr.moved (fun k hk => ku k (by omega)) ⟨by rw [← hW3]; exact hbl.os, by rw [← hW3]; exact hbl.tape, by rw [← hW3]; exact hbl.output, by omega, fun k hk => ku k (by omega)⟩)
    (by rw [← hW3]; exact setBlock_at (by omega)) (by omega)
    (hrow.moved fun g hg _ => kk _ (by have := hga g hg; omega)) (fun g hg => by
      have h1 := hga g hg
      have h2 := hfl g hg
      omega)
  have k2 : ∀ k, k < U.heap.size → w2.heap[k]? = U.heap[k]? := fun k hk => by
    rw [hbl.block k (by omega)]
    exact Below.heap_alloc U _ k hk
  exact ⟨W3, W4, by rw [← hW3]; exact run_update Yba.underlying43 Yba.underlying22 hx q4 _, h4, hP,
    ⟨(World.cell?_of_block (a := ⟨w.heap.size + 1 + 1 + 1 + 1, 39, none⟩) (k2 (w.heap.size + 1 + 1 + 1 + 1) (by omega))).trans hr.map, (World.cell?_of_block (a := ⟨w.heap.size + 1 + 1 + 1 + 1, 39, none⟩) (ku (w.heap.size + 1 + 1 + 1 + 1) (by omega))).trans hr.map⟩, by omega, by omega⟩

theorem pre_two (p q1 q2 q3 q4 : Int) (a' : Option Addr) (c' : Nat) (z8 : List Int) {w U w2 : World} (hr : Ready w.heap.size [] w U) (hs : U.heap.size = w.heap.size + 1 + 1 + 1 + 1 + 1) (hrow : RowIn w2 a' c' z8) (hfl : ∀ g, a' = some g → g.block < w2.heap.size)
    (hga : ∀ g, a' = some g → U.drew.heap.size ≤ g.block) (hbl : Below U.drew.heap.size U.drew w2) :
    ∃ W3 W4, (Instr.mapUpdate 43 (.map (some w2.heap.size)) (.int .u64 q4) (.slice a' z8.length c')).run Yba.prog (w2.alloc (.map #[] 0)) = .ok () W3 ∧
      (Instr.mapUpdate 26 (.map (some (w.heap.size + 1 + 1 + 1))) (.int .u8 p) (.pointer (some ⟨W3.heap.size, 0, none⟩))).run Yba.prog (W3.alloc (.cells #[.int .u64 q1, .int .u64 q2, .int .u64 q3, .map (some w2.heap.size)] 45)) = .ok () W4 ∧
      Pre w.heap.size p q1 q2 q3 q4 W3.heap.size w2.heap.size a' c' z8 w W4 ∧ (w2.cell? ⟨w.heap.size + 1 + 1 + 1 + 1, 39, none⟩ = some (.map (some (w.heap.size + 1 + 1 + 1))) ∧ W3.cell? ⟨w.heap.size + 1 + 1 + 1 + 1, 39, none⟩ = some (.map (some (w.heap.size + 1 + 1 + 1)))) ∧ w.heap.size + 1 + 1 + 1 + 1 < w2.heap.size ∧ w.heap.size + 1 + 1 + 1 + 1 < W3.heap.size := by
  have hss : U.drew.heap.size = U.heap.size := rfl
  have hw2 := hbl.size
  rw [hss] at hw2
  have sA : (w2.alloc (.map #[] 0)).heap.size = w2.heap.size + 1 := by simp
  obtain ⟨W3, hW3⟩ : ∃ W3, setBlock (w2.alloc (.map #[] 0)) w2.heap.size (mobj .u64 (put [] q4 (.slice a' z8.length c'))) = W3 := ⟨_, rfl⟩
  have kk : ∀ k, k < w2.heap.size → W3.heap[k]? = w2.heap[k]? := fun k hk => by rw [← hW3, setBlock_other (by omega)]; exact Below.heap_alloc w2 _ k hk
  have s3 : W3.heap.size = w2.heap.size + 1 := by rw [← hW3, setBlock_size]; exact sA
  have ku : ∀ k, k < U.heap.size → W3.heap[k]? = U.heap[k]? := fun k hk => by
    rw [kk k (by omega), hbl.block k (by omega)]
    rfl
  have k2 : ∀ k, k < U.heap.size → w2.heap[k]? = U.heap[k]? := fun k hk => by
    rw [hbl.block k (by omega)]
    rfl
  have hfar : ∀ g, a' = some g → g.block < w2.heap.size := fun g hg => hfl g hg
  obtain ⟨W4, h4, hP⟩ := pre_fin w.heap.size p q1 q2 q3 q4 w2.heap.size a' c' z8 w W3
    (hr.moved (fun k hk => ku k (by omega)) ⟨by rw [← hW3]; exact hbl.os, by rw [← hW3]; exact hbl.tape, by rw [← hW3]; exact hbl.output, by omega, fun k hk => ku k (by omega)⟩)
    (by rw [← hW3]; exact setBlock_at (by omega)) (by omega)
    (hrow.moved fun g hg _ => kk _ (hfar g hg)) (fun g hg => by
      have h1 := hga g hg
      have h2 := hfar g hg
      omega)
  exact ⟨W3, W4, by rw [← hW3]; exact run_update (es := []) Yba.underlying43 Yba.underlying22 (heap_alloc_new w2 _) q4 _, h4, hP,
    ⟨(World.cell?_of_block (a := ⟨w.heap.size + 1 + 1 + 1 + 1, 39, none⟩) (k2 (w.heap.size + 1 + 1 + 1 + 1) (by omega))).trans hr.map, (World.cell?_of_block (a := ⟨w.heap.size + 1 + 1 + 1 + 1, 39, none⟩) (ku (w.heap.size + 1 + 1 + 1 + 1) (by omega))).trans hr.map⟩, by omega, by omega⟩

set_option maxHeartbeats 1000000 in
set_option maxRecDepth 100000 in
theorem single_pre (p num : Int) (ao : Option Addr) (cp : Nat) (zs : List Int) (q1 q2 q3 q4 : Int) (a8 : Option Addr) (c8 : Nat) (z8 : List Int) (w : World) (hval : RowIn w ao cp zs)
    (hval8 : RowIn w a8 c8 z8) (hl : zs.length ≤ 4096) (hl8 : z8.length ≤ 4096)
    (hp0 : 0 ≤ p) (hp1 : p < 256) (h0 : 0 ≤ num) (h1 : num < 18446744073709551616) :
    Calls Yba.prog 3 #[.int .u8 p, .int .u64 num, .slice ao zs.length cp, .bool true, .int .u64 q1, .int .u64 q2, .int .u64 q3, .int .u64 q4, .slice a8 z8.length c8] w fun e w' => e = .returned (.bool true) ∧ Below w.heap.size w w' := by
  have hmm := @run_makeMap Yba.prog
  have HV := hid hval
  have HA := hid hval.lt
  have HV8 := hid hval8
  have HA8 := hid hval8.lt
  have hR := start_ready w
  have hRs := start_size w
  clear hval hval8
  go_enter Yba.func3, Yba.ntmps3
  go_wp2_with fail
  change Code.wp _ _ _ _ (start w)
  generalize start w = U at *
  have k39 := hR.map
  have hltU : w.heap.size + 1 + 1 + 1 + 1 < U.heap.size := by omega
  have HCL : ∀ W, Below w.heap.size w W → Calls Yba.prog 6 #[.slice a8 z8.length c8] W fun e w' => ∃ a' c', e = .returned (.slice a' z8.length c') ∧ RowIn w' a' c' z8 ∧ (∀ g, a' = some g → W.heap.size ≤ g.block) ∧ (∀ g, a' = some g → g.block < w'.heap.size) ∧ Below W.heap.size W w' :=
    fun W hb => clone_calls z8 a8 c8 W (HV8.out.moved fun g hg hn => hb.block _ (HA8.out g hg hn)) (by omega)
  have HCL := hid HCL
  have HR := hid hR
  have HRS := hid hRs
  clear hR hRs
  go_cut [19] (fun s wc => ∃ oB vB a' c', s = .pointer (some ⟨w.heap.size, 0, none⟩) ∧ Pre w.heap.size p q1 q2 q3 q4 oB vB a' c' z8 w wc)
  case first =>
    go_region_with (go_at_call 6; refine (HCL.out _ ?_).mono ?_; first
      | (exact (HR.out.bel.alloc HR.out.bel.size _).drew
         rintro e w2 ⟨a', c', rfl, hrow, hga, hfl, hbl⟩
         obtain ⟨W3, W4, E1, E2, hP, ⟨x1, x2⟩, y1, y2⟩ := pre_one p q1 q2 q3 q4 a' c' z8 HR.out HRS.out hrow hfl hga hbl
         have HPP := hid hP
         clear hrow hga hbl hfl hP)
      | (exact HR.out.bel.drew
         rintro e w2 ⟨a', c', rfl, hrow, hga, hfl, hbl⟩
         obtain ⟨W3, W4, E1, E2, hP, ⟨x1, x2⟩, y1, y2⟩ := pre_two p q1 q2 q3 q4 a' c' z8 HR.out HRS.out hrow hfl hga hbl
         have HPP := hid hP
         clear hrow hga hbl hfl hP))
    all_goals
      go_wp2_with fail
      go_meet
      case rel => exact ⟨_, _, _, _, rfl, HPP.out⟩
  case rest =>
    obtain ⟨oB, vB, a', c', rfl, hpre⟩ := hcut
    have HPR := hid hpre
    clear hpre
    have hval : RowIn wc ao cp zs := HV.out.moved fun g hg hn => HPR.out.ready.bel.block _ (HA.out g hg hn)
    have HST := hid (single_started w.heap.size oB vB [(p, .pointer (some ⟨oB, 0, none⟩))] q1 q2 q3 p num [(q4, .slice a' z8.length c')] ao cp zs w wc wc
      ((owned_there (w.heap.size + 1 + 1 + 1 + 1) (w.heap.size + 1 + 1 + 1) [(p, .pointer (some ⟨oB, 0, none⟩))] p (some ⟨oB, 0, none⟩) ⟨oB, 0, none⟩ wc rfl HPR.out.ready.map HPR.out.ready.own (by rw [get_cons]; simp)).mono fun _ _ h => ⟨h.1, h.2.symm⟩)
      HPR.out.ready HPR.out.ob HPR.out.vb HPR.out.hob HPR.out.hvb hval HA.out hp0 hp1 h0 h1 (by omega))
    clear hval
    go_wp2_with fail
    refine HST.out.mono ?_
    rintro e wd ⟨rfl, hd, hkept⟩
    have HBD := hid hd.bel
    have hval : RowIn wd ao cp zs := HV.out.moved fun g hg hn => hd.bel.block _ (HA.out g hg hn)
    have hval8 : RowIn wd a8 c8 z8 := HV8.out.moved fun g hg hn => hd.bel.block _ (HA8.out g hg hn)
    have hvalp : RowIn wd a' c' z8 := HPR.out.row.moved fun g hg _ => by
      have := HPR.out.far g hg
      exact hkept _ (by omega) (by omega) (by omega) (by omega)
    obtain ⟨g, cap, hgot, hrec⟩ := hd.got
    have k1 := hd.calls
    have k2 := hd.when
    have k3 := hd.map
    have o0 : wd.cell? ⟨oB, 0, none⟩ = some (.int .u64 num) := by simp [World.cell?, hd.ob]
    have o1 : wd.cell? ⟨oB, 1, none⟩ = some (.int .u64 q2) := by simp [World.cell?, hd.ob]
    have o2 : wd.cell? ⟨oB, 2, none⟩ = some (.int .u64 q3) := by simp [World.cell?, hd.ob]
    have o3 : wd.cell? ⟨oB, 3, none⟩ = some (.map (some vB)) := by simp [World.cell?, hd.ob]
    have l1 := run_look (P := Yba.prog) Yba.underlying26 Yba.underlying40 hd.own p (Yba.zeroValue41 wd) false
    rw [get_cons] at l1
    simp only [beq_self_eq_true, if_true, Bool.false_eq_true, if_false, Option.getD_some] at l1
    have n1 := fun ty => run_mlen (P := Yba.prog) Yba.underlying26 hd.own ty
    simp only [List.length_cons, List.length_nil] at n1
    have l2 := run_look (P := Yba.prog) Yba.underlying43 Yba.underlying22 hd.vb num (Yba.zeroValue23 wd) true
    rw [get_put, if_pos rfl] at l2
    simp only [if_true, Option.getD_some, Option.isSome_some] at l2
    have n2 := fun ty => run_mlen (P := Yba.prog) Yba.underlying43 hd.vb ty
    rw [put_length, get_cons, get_nil] at n2
    have l3 := run_look (P := Yba.prog) Yba.underlying43 Yba.underlying22 hd.vb q4 (Yba.zeroValue23 wd) true
    rw [get_put, get_cons, get_nil] at l3
    have HEQ := hid (equal_calls zs ao ao cp cp wd hval hval)
    have HEP := hid (equal_calls z8 a' a8 c' c8 wd hvalp hval8)
    have HAR := hid (arec_calls p num zs g 0 cap ao cp wd hrec hval h0 h1 (by omega))
    clear hd hrec hval hval8 hvalp hkept HV HA HV8 HA8 HPR HST k39 hltU HCL HR HRS
    unfold due at k2
    by_cases hq : q4 = num
    · subst hq
      clear l3
      simp only [beq_self_eq_true, if_true, Option.isSome_some, List.length_cons, List.length_nil] at n2
      go_wp2_with fail
      refine HEQ.out.mono ?_
      rintro e wx ⟨rfl, hwx⟩
      subst hwx
      go_wp2_with fail
      refine HAR.out.mono ?_
      rintro e wz ⟨rfl, n, rfl⟩
      go_wp2
      go_ret
      exact ⟨rfl, below_drewN HBD.out n⟩
    · have hb1 : (num == q4) = false := by rw [beq_eq_false_iff_ne]; exact fun e => hq e.symm
      have hb2 : (q4 != num) = true := by rw [bne_iff_ne]; exact hq
      rw [if_neg hq] at l3
      simp only [beq_self_eq_true, if_true, Option.getD_some, Option.isSome_some] at l3
      simp only [hb1, Bool.false_eq_true, if_false, Option.isSome_none, List.length_cons, List.length_nil] at n2
      go_wp2_with fail
      refine HEQ.out.mono ?_
      rintro e wx ⟨rfl, hwx⟩
      subst hwx
      go_wp2_with fail
      refine HEP.out.mono ?_
      rintro e wx ⟨rfl, hwx⟩
      subst hwx
      go_wp2_with fail
      refine HAR.out.mono ?_
      rintro e wz ⟨rfl, n, rfl⟩
      go_wp2
      go_ret
      exact ⟨rfl, below_drewN HBD.out n⟩
end Go.Proofs.Ybulklay
