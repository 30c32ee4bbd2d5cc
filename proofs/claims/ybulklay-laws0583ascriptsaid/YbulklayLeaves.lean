import Derived.Test.YbulklayArec
import Derived.Laws.IdiomStrings
import Derived.Lib.BufferRead
import Derived.Lib.SliceRun
import Derived.Laws.EntriesVeiled
namespace Go.Proofs.Ybulklay
open Go.RowKit
open Go.ChangeMaps (setBlock)

def ofI (c : Int) : UInt8 := UInt8.ofNat c.toNat
def strOf (zs : List Int) : ByteArray := ⟨(zs.map ofI).toArray⟩

theorem run_conv {w : World} {a : Option Addr} {c : Nat} {zs : List Int} (h : RowIn w a c zs) : (convert 23 9 (.slice a zs.length c)).run Yba.prog w = .ok (.string (strOf zs)) w := by
  rcases h.form with ⟨rfl, rfl, rfl⟩ | ⟨ad, rfl, hc⟩
  · exact Lib.run_convert_nil_bytes w 23 9 5 0 Yba.underlying23 Yba.underlying5 Yba.underlying9
  · have := run_convert_bytes_back (P := Yba.prog) w 23 9 5 ad c (zs.map ofI) Yba.underlying23 Yba.underlying5 Yba.underlying9 (fun j hj => by
      have hj' : j < zs.length := by simpa using hj
      have hw := h.wf (zs.getD j 0) (by simp [List.getD, hj'])
      rw [hc j hj']
      simp [List.getD, hj'] at hw ⊢
      simp [ofI]
      omega)
    simpa [strOf] using this

set_option maxHeartbeats 400000 in
/-- bytes.Equal at two slices of the same octets. -/
theorem equal_calls (zs : List Int) (a1 a2 : Option Addr) (c1 c2 : Nat) (w : World) (h1 : RowIn w a1 c1 zs) (h2 : RowIn w a2 c2 zs) :
    Calls Yba.prog 8 #[.slice a1 zs.length c1, .slice a2 zs.length c2] w fun e w' => e = .returned (.bool true) ∧ w = w' := by
  have k1 := run_conv h1
  have k2 := run_conv h2
  clear h1 h2
  go_enter Yba.func8, Yba.ntmps8
  go_wp2
  go_ret
  exact ⟨rfl, rfl⟩

set_option maxHeartbeats 400000 in
/-- bytes.Clone. -/
theorem clone_calls (zs : List Int) (a : Option Addr) (c : Nat) (w : World) (h : RowIn w a c zs) (hl : zs.length ≤ 1000000) :
    Calls Yba.prog 6 #[.slice a zs.length c] w fun e w' => ∃ a' c', e = .returned (.slice a' zs.length c') ∧ RowIn w' a' c' zs ∧ (∀ g, a' = some g → w.heap.size ≤ g.block) ∧ (∀ g, a' = some g → g.block < w'.heap.size) ∧ Below w.heap.size w w' := by
  obtain ⟨i0, hi, hz0, hz1, hz2⟩ := info_parts infoByte
  have hn := fun (w : World) (a : Option Addr) (n c n' c' : Nat) => Lib.run_eql_slice_nil (P := Yba.prog) w 23 5 a n c n' c' Yba.underlying23
  have hf := h.form
  have HR := hid h
  clear h
  rcases hf with ⟨rfl, rfl, rfl⟩ | ⟨ad, rfl, hc⟩
  · go_enter Yba.func6, Yba.ntmps6
    go_wp2
    go_ret
    exact ⟨none, 0, rfl, HR.out, fun g h => (by cases h), fun g h => (by cases h), Below.refl _ _⟩
  · have HC := hid hc
    clear hc
    have hown : (w.alloc (.cells #[] 5)).ownsRow w.heap.size 5 1 (.slice (some ⟨w.heap.size, 0, none⟩) 0 0) 0 [] :=
      ⟨rfl, .inr ⟨w.heap.size, 0, #[], rfl, Nat.le_refl _, heap_alloc_new w _, by omega, by unfold maxLen; omega, rfl, rfl⟩⟩
    have HO := hid hown
    clear hown
    go_enter Yba.func6, Yba.ntmps6
    go_wp2_with (at_builtin; refine wpList_append_own_at _ rfl _ _ 23 rfl w.heap.size 5 i0 (.int .u8 0) 1 1 Yba.underlying23 hi hz0 hz1 hz2 rfl (by decide) _ 0 [] rfl HO.out ad zs.length c (u8s zs) rfl ?c0 ?c1 (u8s_one _) ?c3 ?c4 ?c5 ?_)
    case c0 => simp [u8s]
    case c1 =>
      intro j u hj
      simp only [u8s, List.getElem?_map, Option.map_eq_some_iff] at hj
      obtain ⟨x, hx, rfl⟩ := hj
      obtain ⟨hjl, hjx⟩ := List.getElem?_eq_some_iff.1 hx
      have hcj := HC.out j hjl
      rw [((Below.refl w.heap.size w).alloc (Nat.le_refl _) _).cell (p := ad.add j) (World.block_lt_of_cell? _ _ hcj), hcj]
      simp [List.getD, hx]
    case c3 => unfold maxLen; omega
    case c4 => omega
    case c5 => simp
    intro v' w3 hown' hgrow3 hnil3 hat3
    have HW := hid (((Below.refl w.heap.size w).alloc (Nat.le_refl _) _).grown hgrow3 (by simp) (fun k hk => by simp [Value.ownBlock] at hk; omega))
    obtain ⟨g, cap, rfl, hgb, hgl, hrow⟩ : ∃ g cap, v' = .slice (some ⟨g, 0, none⟩) zs.length cap ∧ w.heap.size ≤ g ∧ g < w3.heap.size ∧ RowIn w3 (some ⟨g, 0, none⟩) cap zs := by
      rcases hown'.2 with ⟨rfl, _⟩ | ⟨g, cap, cur, rfl, hb, hh, hnc, hcm, _, _⟩
      · simp at hnil3
      · refine ⟨g, cap, by simp, hb, (Array.getElem?_eq_some_iff.1 hh).1, by omega, hcm, HR.out.wf, .inr ⟨⟨g, 0, none⟩, rfl, fun j hj => ?_⟩⟩
        rw [Addr.add_lit, Nat.zero_add, hown'.cellAt j (by omega)]
        simp [u8s, List.getD, hj]
    have HV := hid hrow
    clear hgrow3 hnil3 hat3 hown' hrow
    go_wp2
    go_ret
    exact ⟨_, _, rfl, HV.out, fun g' h => (by cases h; exact hgb), fun g' h => (by cases h; exact hgl), HW.out⟩

/-! ### (*saved).owned -/
set_option maxHeartbeats 400000 in
theorem owned_there (sB mB : Nat) (es : Es) (p : Int) (q : Option Addr) (a : Addr) (w : World) (hq : q = some a) (hc : w.cell? ⟨sB, 39, none⟩ = some (.map (some mB))) (hb : w.heap[mB]? = some (mobj .u8 es)) (hg : get es p = some (.pointer q)) :
    Calls Yba.prog 11 #[.pointer (some ⟨sB, 0, none⟩), .int .u8 p] w fun e w' => e = .returned (.pointer q) ∧ w = w' := by
  subst hq
  have hlk := run_look (P := Yba.prog) Yba.underlying26 Yba.underlying40 hb p (Yba.zeroValue41 w) false
  rw [hg] at hlk
  simp only [Bool.false_eq_true, if_false, Option.getD_some] at hlk
  clear hb hg
  go_enter Yba.func11, Yba.ntmps11
  go_wp2
  go_ret
  exact ⟨rfl, rfl⟩

/-- The world behind owned at a proto that was not there. -/
def ownedNew (w : World) (mB : Nat) (es : Es) (p : Int) : World :=
  setBlock ((w.alloc (.map #[] 0)).alloc (.cells #[.int .u64 0, .int .u64 0, .int .u64 1, .map (some w.heap.size)] 45)) mB (mobj .u8 (put es p (.pointer (some ⟨w.heap.size + 1, 0, none⟩))))

set_option maxHeartbeats 400000 in
theorem owned_new (sB mB : Nat) (es : Es) (p : Int) (w : World) (hc : w.cell? ⟨sB, 39, none⟩ = some (.map (some mB))) (hb : w.heap[mB]? = some (mobj .u8 es)) (hg : get es p = none) :
    Calls Yba.prog 11 #[.pointer (some ⟨sB, 0, none⟩), .int .u8 p] w fun e w' => e = .returned (.pointer (some ⟨w.heap.size + 1, 0, none⟩)) ∧ w' = ownedNew w mB es p := by
  have hsb : sB < w.heap.size := World.block_lt_of_cell? _ _ hc
  have hmb : mB < w.heap.size := (Array.getElem?_eq_some_iff.1 hb).1
  have hlk := run_look (P := Yba.prog) Yba.underlying26 Yba.underlying40 hb p (Yba.zeroValue41 w) false
  rw [hg] at hlk
  simp only [Bool.false_eq_true, if_false, Option.getD_none] at hlk
  have hmm := @run_makeMap Yba.prog
  have hup := run_update (P := Yba.prog) (w := (w.alloc (.map #[] 0)).alloc (.cells #[.int .u64 0, .int .u64 0, .int .u64 1, .map (some w.heap.size)] 45)) Yba.underlying26 Yba.underlying40 (b := mB) (es := es)
    (by rw [Below.heap_alloc _ _ _ (by simp; omega), Below.heap_alloc _ _ _ hmb]; exact hb) p (.pointer (some ⟨w.heap.size + 1, 0, none⟩))
  clear hb hg
  go_enter Yba.func11, Yba.ntmps11
  go_wp2
  go_ret
  exact ⟨rfl, rfl⟩
end Go.Proofs.Ybulklay
