import Derived.Test.YbulklayMaps
import Derived.Maps.AppendAt
import Derived.Laws.AppendOwnNone
namespace Go.Proofs.Ybulklay
open Go.RowKit

theorem infoByte : (Yba.prog.info? 5).map (fun i => (i.zero, i.size, i.bytes)) = some (some (.int .u8 0), 1, 1) := by kernel_rfl

/-- A slice of octets: nil where it is empty, or a row of cells. -/
structure RowIn (w : World) (ao : Option Addr) (cp : Nat) (zs : List Int) : Prop where
  le : zs.length ≤ cp
  cap : cp ≤ maxLen
  wf : ∀ z ∈ zs, 0 ≤ z ∧ z < 256
  form : (ao = none ∧ zs = [] ∧ cp = 0) ∨ ∃ x : Addr, ao = some x ∧ ∀ j, j < zs.length → w.cell? (x.add j) = some (.int .u8 (zs.getD j 0))

theorem add_block (x : Addr) (j : Nat) : (x.add j).block = x.block := by unfold Addr.add; split <;> rfl
/-- Where there is an octet at all the address is a plain one. -/
theorem RowIn.plain {w : World} {ao : Option Addr} {cp : Nat} {zs : List Int} (h : RowIn w ao cp zs) (hne : 0 < zs.length) : ∃ blk off, ao = some ⟨blk, off, none⟩ ∧ blk < w.heap.size ∧ ∀ j, j < zs.length → w.cell? ⟨blk, off + j, none⟩ = some (.int .u8 (zs.getD j 0)) := by
  rcases h.form with ⟨_, rfl, _⟩ | ⟨x, rfl, hc⟩
  · simp at hne
  · obtain ⟨b, off, spot⟩ := x
    have h0 := hc 0 hne
    have hspot : spot = none := by simpa [Addr.add] using World.cell?_spot h0
    subst hspot
    refine ⟨b, off, rfl, by have := World.block_lt_of_cell? _ _ h0; rwa [add_block] at this, fun j hj => ?_⟩
    rw [← Addr.add_lit]; exact hc j hj
theorem RowIn.moved {w w' : World} {a : Option Addr} {c : Nat} {zs : List Int} (h : RowIn w a c zs) (hk : ∀ g, a = some g → 0 < zs.length → w'.heap[g.block]? = w.heap[g.block]?) : RowIn w' a c zs :=
  ⟨h.le, h.cap, h.wf, by
    rcases h.form with h0 | ⟨x, rfl, hc⟩
    · exact .inl h0
    · exact .inr ⟨x, rfl, fun j hj => (World.cell?_of_block (w := w) (a := x.add j) (by rw [add_block]; exact hk x rfl (by omega))).trans (hc j hj)⟩⟩
theorem RowIn.lt {w : World} {a : Option Addr} {c : Nat} {zs : List Int} (h : RowIn w a c zs) (g : Addr) (hg : a = some g) (hne : 0 < zs.length) : g.block < w.heap.size := by
  obtain ⟨b, off, e, hb, _⟩ := h.plain hne
  rw [hg] at e
  cases e
  exact hb

def u8s (zs : List Int) : List Value := zs.map (Value.int .u8)
/-- The eight octets of num, the greatest first, in the walk's own form. -/
def be (num : Int) : List Int := [num / 72057594037927936, num / 281474976710656 % 256, num / 1099511627776 % 256, num / 4294967296 % 256, num / 16777216 % 256, num / 65536 % 256, num / 256 % 256, num % 256]
/-- The record of a started broadcast. -/
def recOf (p num : Int) (zs : List Int) : List Int := [3, p] ++ be num ++ zs

theorem u8s_length (zs : List Int) : (u8s zs).length = zs.length := by simp [u8s]
theorem u8s_one (zs : List Int) : ∀ v ∈ u8s zs, v.oneCell' = true := by
  intro v hv
  simp only [u8s, List.mem_map] at hv
  obtain ⟨b, _, rfl⟩ := hv
  rfl

theorem cells_new (W : World) (l : List Value) (t : TypeId) (n : Nat) (hn : W.heap.size = n) : ∀ j u, l[j]? = some u → (W.alloc (.cells l.toArray t)).cell? ((⟨n, 0, none⟩ : Addr).add j) = some u := by
  intro j u hj
  subst hn
  rw [Addr.add_lit, Nat.zero_add]
  unfold World.cell?
  rw [heap_alloc_new W (.cells l.toArray t)]
  simp [hj]

set_option maxHeartbeats 1000000 in
theorem append64_calls (num p : Int) (w : World) (h0 : 0 ≤ num) (h1 : num < 18446744073709551616) :
    Calls Yba.prog 14 #[.agg #[], .slice (some ⟨w.heap.size, 0, none⟩) 2 2, .int .u64 num] (w.alloc (.cells #[.int .u8 3, .int .u8 p] 5)) fun e w' => ∃ v, e = .returned v ∧ w'.ownsRow w.heap.size 5 1 v 10 (u8s (recOf p num [])) ∧ Below w.heap.size w w' := by
  obtain ⟨i0, hi, hz0, hz1, hz2⟩ := info_parts infoByte
  have hown : (w.alloc (.cells #[.int .u8 3, .int .u8 p] 5)).ownsRow w.heap.size 5 1 (.slice (some ⟨w.heap.size, 0, none⟩) 2 2) 2 [.int .u8 3, .int .u8 p] :=
    ⟨rfl, .inr ⟨w.heap.size, 2, #[.int .u8 3, .int .u8 p], rfl, Nat.le_refl _, heap_alloc_new w _, by omega, by unfold maxLen; omega, rfl, rfl⟩⟩
  have HO := hid hown
  clear hown
  go_enter Yba.func14, Yba.ntmps14
  go_wp2_with (at_builtin; refine wpList_append_own_at _ rfl _ _ 23 rfl w.heap.size 5 i0 (.int .u8 0) 1 1 Yba.underlying23 hi hz0 hz1 hz2 rfl (by decide) _ 2 _ rfl ((HO.out.alloc _).alloc _) ⟨w.heap.size + 1 + 1, 0, none⟩ 8 8 (u8s (be num)) rfl rfl ?c1 (u8s_one _) ?c3 ?c4 ?c5 ?_)
  case c1 => exact cells_new _ (u8s (be num)) 5 _ (by simp)
  case c3 => unfold maxLen; omega
  case c4 => omega
  case c5 => simp; omega
  intro v' w3 hown' hgrow3 hnil3 hat3
  have HW := hid ((((((Below.refl w.heap.size w).alloc (Nat.le_refl _) _).alloc (by simp) _).alloc (by simp; omega) _).grown hgrow3 (by simp; omega) (fun k hk => by simp [Value.ownBlock] at hk; omega)))
  have HV := hid hown'
  clear hgrow3 hnil3 hat3 hown'
  go_wp2
  go_ret
  exact ⟨_, rfl, HV.out, HW.out⟩

set_option maxHeartbeats 1000000 in
theorem record_calls (p num : Int) (ao : Option Addr) (cp : Nat) (zs : List Int) (w : World) (hrow : RowIn w ao cp zs) (h0 : 0 ≤ num) (h1 : num < 18446744073709551616) (hl : zs.length ≤ 100000000) :
    Calls Yba.prog 13 #[.int .u8 p, .int .u64 num, .slice ao zs.length cp] w fun e w' => ∃ v, e = .returned v ∧ w'.ownsRow w.heap.size 5 1 v (10 + zs.length) (u8s (recOf p num zs)) ∧ Below w.heap.size w w' := by
  obtain ⟨i0, hi, hz0, hz1, hz2⟩ := info_parts infoByte
  have hc := hrow.form
  have HRW := hid hrow
  clear hrow
  rcases hc with ⟨rfl, rfl, rfl⟩ | ⟨ad, rfl, hcell⟩
  · go_enter Yba.func13, Yba.ntmps13
    go_wp2_with fail
    refine (append64_calls num p w h0 h1).mono ?_
    rintro e w1 ⟨v, rfl, hown, hbel⟩
    have HO := hid hown
    have HB := hid hbel
    clear hown hbel
    go_wp2_with (at_builtin; refine wpList_append_own_none rfl _ _ 23 rfl w.heap.size 5 i0 1 Yba.underlying23 hi v 10 _ rfl HO.out rfl ?_)
    go_wp2
    go_ret
    exact ⟨_, rfl, HO.out, HB.out⟩
  · have HC := hid hcell
    clear hcell
    go_enter Yba.func13, Yba.ntmps13
    go_wp2_with fail
    refine (append64_calls num p w h0 h1).mono ?_
    rintro e w1 ⟨v, rfl, hown, hbel⟩
    have HO := hid hown
    have HB := hid hbel
    have hsz := hbel.size
    clear hown hbel
    go_wp2_with (at_builtin; refine wpList_append_own_at _ rfl _ _ 23 rfl w.heap.size 5 i0 (.int .u8 0) 1 1 Yba.underlying23 hi hz0 hz1 hz2 rfl (by decide) v 10 _ rfl HO.out ad zs.length cp (u8s zs) rfl ?c0 ?c1 (u8s_one _) ?c3 ?c4 ?c5 ?_)
    case c0 => simp [u8s]
    case c1 =>
      intro j u hj
      simp only [u8s, List.getElem?_map, Option.map_eq_some_iff] at hj
      obtain ⟨x, hx, rfl⟩ := hj
      obtain ⟨hjl, hjx⟩ := List.getElem?_eq_some_iff.1 hx
      have hcj := HC.out j hjl
      rw [HB.out.cell (p := ad.add j) (World.block_lt_of_cell? _ _ hcj), hcj]
      simp [List.getD, hx]
    case c3 => unfold maxLen; omega
    case c4 => omega
    case c5 => omega
    intro v' w3 hown' hgrow3 hnil3 hat3
    have HW := hid (HB.out.grown hgrow3 hsz (fun k hk => (HO.out.lt k hk).1))
    have HV := hid hown'
    clear hgrow3 hnil3 hat3 hown'
    go_wp2
    go_ret
    refine ⟨_, rfl, ?_, HW.out⟩
    have e : u8s (recOf p num zs) = u8s (recOf p num []) ++ u8s zs := by simp [u8s, recOf]
    rw [e]; exact HV.out
end Go.Proofs.Ybulklay
