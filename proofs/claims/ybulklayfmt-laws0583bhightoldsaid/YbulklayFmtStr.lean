import Derived.Test.YbulklayFmtText
import Derived.BigCall
import Derived.WalkSpells
namespace Go.Proofs.YbulklayFmt
open Go.RowKit Go.Kit Go.Extern.Stop Go.Stop Go.Extern

theorem info9 : (Ybaf.prog.info? 9).map (fun i => (i.zero, i.size, i.bytes)) = some (some (.string ByteArray.empty), 1, 16) := by kernel_rfl

/-- The names, as the variable holds them. -/
structure Names (w : World) (b off cap : Nat) : Prop where
  var : w.cell? ⟨0, 0, none⟩ = some (.slice (some ⟨b, off, none⟩) 6 cap)
  cells : ∀ k, k < 6 → w.cell? ⟨b, off + k, none⟩ = some (.string (nameB k))
theorem Names.lt {w : World} {b off cap : Nat} (h : Names w b off cap) : b < w.heap.size ∧ 0 < w.heap.size :=
  ⟨World.block_lt_of_cell? _ _ (h.cells 0 (by omega)), World.block_lt_of_cell? _ _ h.var⟩
theorem Names.moved {w w' : World} {b off cap : Nat} (h : Names w b off cap) (hb : Below w.heap.size w w') : Names w' b off cap :=
  ⟨(hb.cell (p := ⟨0, 0, none⟩) h.lt.2).trans h.var, fun k hk => (hb.cell (p := ⟨b, off + k, none⟩) h.lt.1).trans (h.cells k hk)⟩

/-- What String gives. -/
def allB (F : Interp) (r : Int) : List ByteArray := if rs r != 0 then pk r 6 ++ [tx F (rs r)] else pk r 6
def got (F : Interp) (r : Int) : ByteArray := if allB F r = [] then ⟨#[48]⟩ else ⟨(Lib.join ((allB F r).map (·.data.toList)) [124]).toArray⟩

def oA (x : Int) : Obj := .cells #[.iface 22 (.int .u64 x)] 20
def oB (F : Interp) (x : Int) : Obj := .cells #[.string (tx F x)] 9
theorem size2 (w : World) (A B : Obj) : ((w.alloc A).alloc B).drew.heap.size = w.heap.size + 1 + 1 := by
  show ((w.alloc A).alloc B).heap.size = _
  rw [World.size_alloc, World.size_alloc]
theorem cell2 (w : World) (A : Obj) (x : Value) (t : TypeId) : ∀ j u, [x][j]? = some u → ((w.alloc A).alloc (.cells #[x] t)).drew.cell? ((⟨w.heap.size + 1, 0, none⟩ : Addr).add j) = some u := by
  intro j u hj
  have h9 := cell_one_new (w.alloc A) x t j u hj
  rw [World.size_alloc] at h9
  exact h9
theorem slice_of {w : World} {base n : Nat} {e : TypeId} {v : Value} {xs : List Value} (h : w.ownsRow base e 1 v (n + 1) xs) : ∃ g cap, v = .slice (some ⟨g, 0, none⟩) (n + 1) cap := by
  rcases h.2 with ⟨_, h0⟩ | ⟨g, cap, cur, e, _⟩
  · omega
  · exact ⟨g, cap, e⟩

/-- strings.Join over the call's own row. -/
theorem join_own (B g cap : Nat) (xs : List ByteArray) (w : World) (hne : xs ≠ []) (h : w.ownsRow B 9 1 (.slice (some ⟨g, 0, none⟩) xs.length cap) xs.length (xs.map Value.string)) (hl : xs.length ≤ 100)
    (hlen : (Lib.join (xs.map (·.data.toList)) [124]).length ≤ 140737488355328) :
    Calls Ybaf.prog 9 #[.slice (some ⟨g, 0, none⟩) xs.length cap, .string ⟨#[124]⟩] w fun e w' => e = .returned (.string ⟨(Lib.join (xs.map (·.data.toList)) [124]).toArray⟩) ∧ Below w.heap.size w w' := by
  have hcells : ∀ (j : Nat) x, xs[j]? = some x → w.cell? ⟨g, 0 + j, none⟩ = some (.string x) := by
    intro j x hj
    have hjl := (List.getElem?_eq_some_iff.1 hj).1
    rw [Nat.zero_add, h.cellAt j (by omega), List.getElem?_map, hj]
    rfl
  have hpos := List.length_pos_iff.2 hne
  have hgl : g < w.heap.size := World.block_lt_of_cell? _ _ (hcells 0 _ (List.getElem?_eq_getElem hpos))
  have hcap : xs.length ≤ cap := by
    rcases h.2 with ⟨h, _⟩ | ⟨g', cap', _, h, _, _, hn, _⟩
    · cases h
    · simp only [Value.slice.injEq] at h
      omega
  exact Ybaf.strings_Join g 0 cap xs ⟨#[124]⟩ w hcells hgl (by omega) hcap hlen

set_option maxHeartbeats 1000000 in
theorem str_calls (F : Interp) (r : Int) (b off cap : Nat) (w : World) (hn : Names w b off cap) (hF : F.answers w.tape) (hlen : (Lib.join ((allB F r).map (·.data.toList)) [124]).length ≤ 140737488355328) :
    Calls Ybaf.prog 5 #[.int .u64 r] w fun e w' => e = .returned (.string (got F r)) ∧ Below w.heap.size w w' := by
  obtain ⟨i0, hi, hz0, hz1, hz2⟩ := info_parts info9
  have HF := hid hF
  have HN := hid hn
  have HL := hid hlen
  have v0 := hn.var
  clear hn hF hlen
  go_enter Ybaf.func5, Ybaf.ntmps5
  go_wp2
  clear v0
  go_loopg [3, 9] 6 (fun k v i wr => ∃ (j : Nat) (ao : Option Addr) (cv : Nat), j ≤ 6 ∧ i = .int .i64 j ∧ k = 6 - j ∧ v = .slice ao (pk r j).length cv ∧ wr.ownsRow w.heap.size 9 1 v (pk r j).length ((pk r j).map Value.string) ∧ Below w.heap.size w wr)
  case atStart => exact ⟨0, none, 0, Nat.zero_le _, rfl, rfl, rfl, World.ownsRow_nil _ _ _ _, Below.refl _ _⟩
  case round =>
    obtain ⟨j, ao, cv, hj, rfl, rfl, rfl, hown, hbel⟩ := hrel
    have HO := hid hown
    have HB := hid hbel
    have hsz := hbel.size
    have hpl := pk_len r j
    clear hown hbel
    by_cases hj6 : j < 6
    · have hc := (HN.out.moved HB.out).cells j hj6
      cases ht : tb r j
      · have ht' : (bits BinOp.and IntKind.u64 r (IntKind.u64.wrap (2 ^ j)) != 0) = false := ht
        have hpk : pk r (j + 1) = pk r j := by simp [pk, ht]
        have HPK := hid hpk
        clear ht hpk
        go_wp2
        go_roundg (6 - (j + 1))
        case rel => exact ⟨j + 1, ao, cv, by omega, by go_num, rfl, by rw [HPK.out], by rw [HPK.out]; exact HO.out, HB.out⟩
        case measure => omega
      · have ht' : (bits BinOp.and IntKind.u64 r (IntKind.u64.wrap (2 ^ j)) != 0) = true := ht
        have hpk : pk r (j + 1) = pk r j ++ [nameB j] := by simp [pk, ht]
        have HPK := hid hpk
        clear ht hpk
        go_wp2_with (at_builtin; refine wpList_append_own_at _ rfl _ _ 29 rfl w.heap.size 9 i0 (.string ByteArray.empty) 1 16 Ybaf.underlying29 hi hz0 hz1 hz2 rfl (by decide) _ _ _ rfl (HO.out.alloc _) ⟨wr.heap.size, 0, none⟩ 1 1 [.string (nameB j)] rfl rfl ?c1 ?c2 ?c3 ?c4 ?c5 ?_)
        case c1 => exact cell_one_new _ _ _
        case c2 => intro x hx; simp at hx; subst hx; rfl
        case c3 => unfold maxLen; omega
        case c4 => omega
        case c5 => simp; omega
        intro v' w3 hown3 hgrow3 hnil3 hat3
        obtain ⟨g3, cap3, rfl⟩ := slice_of hown3
        have HO3 := hid hown3
        have HG3 := hid hgrow3
        clear hown3 hgrow3 hnil3 hat3 hc
        go_wp2
        go_roundg (6 - (j + 1))
        case rel =>
          refine ⟨j + 1, some ⟨g3, 0, none⟩, cap3, by omega, by go_num, rfl, by rw [HPK.out]; simp, ?_, ?_⟩
          · rw [HPK.out, List.map_append, List.length_append]; exact HO3.out
          · exact (HB.out.alloc hsz _).grown HG3.out (by simp; omega) (fun q hq => (HO.out.lt q hq).1)
        case measure => omega
    · obtain rfl : j = 6 := by omega
      have v0 := (HN.out.moved HB.out).var
      cases hr : (bits BinOp.andNot IntKind.u64 r 63 != 0)
      · have hall : allB F r = pk r 6 := by simp [allB, rs, hr]
        have HALL := hid hall
        by_cases he : pk r 6 = []
        · have hlen0 : (pk r 6).length = 0 := by rw [he]; rfl
          rw [hlen0]
          go_wp2
          go_ret
          refine ⟨?_, HB.out⟩
          rw [got, if_pos (by rw [HALL.out, he])]
          rfl
        · have hlen1 : 0 < (pk r 6).length := List.length_pos_iff.2 he
          have hlen2 : (((pk r 6).length : Int) == 0) = false := by simp; exact he
          obtain ⟨g, rfl⟩ : ∃ g, ao = some ⟨g, 0, none⟩ := by
            rcases HO.out.2 with ⟨_, h⟩ | ⟨g, cap, _, h, _⟩
            · omega
            · simp only [Value.slice.injEq] at h
              exact ⟨g, h.1⟩
          have HJ := hid (join_own w.heap.size g cv (pk r 6) wr he HO.out (by omega) (by rw [← HALL.out]; exact HL.out))
          have HE := hid he
          clear he hall
          go_wp2_with fail
          refine HJ.out.mono ?_
          rintro e w5 ⟨rfl, hb5⟩
          have HB5 := hid hb5
          clear hb5
          go_wp2
          go_ret
          refine ⟨?_, HB.out.trans (HB5.out.mono hsz)⟩
          rw [got, if_neg (by rw [HALL.out]; exact HE.out), HALL.out]
          rfl
      · have hall : allB F r = pk r 6 ++ [tx F (rs r)] := by simp [allB, rs, hr]
        have HALL := hid hall
        have hF' := answers_open (show F.answers wr.tape by rw [HB.out.tape]; exact HF.out)
        have f1 := @call8
        have f2 := @guard
        have f3 := fmt0
        have f4 := @fmt0r
        have f5 := @op22
        have hs1 : w.heap.size ≤ (wr.alloc (oA (rs r))).heap.size := by rw [World.size_alloc]; omega
        have hs2 : w.heap.size ≤ ((wr.alloc (oA (rs r))).alloc (oB F (rs r))).drew.heap.size := by rw [size2]; omega
        clear hall
        go_wp2_with (at_builtin; refine wpList_append_own_at _ rfl _ _ 29 rfl w.heap.size 9 i0 (.string ByteArray.empty) 1 16 Ybaf.underlying29 hi hz0 hz1 hz2 rfl (by decide) _ _ _ rfl (((HO.out.alloc _).alloc _).drew) ⟨wr.heap.size + 1, 0, none⟩ 1 1 [.string (tx F (rs r))] rfl rfl ?c1 ?c2 ?c3 ?c4 ?c5 ?_)
        case c1 => exact cell2 wr (oA (rs r)) (.string (tx F (rs r))) 9
        case c2 => intro x hx; simp at hx; subst hx; rfl
        case c3 => unfold maxLen; omega
        case c4 => omega
        case c5 => exact hs2
        intro v' w3 hown3 hgrow3 hnil3 hat3
        obtain ⟨g3, cap3, rfl⟩ := slice_of hown3
        have hL : (pk r 6 ++ [tx F (rs r)]).length = (pk r 6).length + 1 := by simp
        have hown4 : w3.ownsRow w.heap.size 9 1 (.slice (some ⟨g3, 0, none⟩) (pk r 6 ++ [tx F (rs r)]).length cap3) (pk r 6 ++ [tx F (rs r)]).length ((pk r 6 ++ [tx F (rs r)]).map Value.string) := by
          rw [List.map_append, hL]; exact hown3
        have hb3 : Below w.heap.size w w3 := (((HB.out.alloc hsz (oA (rs r))).alloc hs1 (oB F (rs r))).drew).grown hgrow3 hs2 (fun q hq => (HO.out.lt q hq).1)
        have HJ := hid (join_own w.heap.size g3 cap3 (pk r 6 ++ [tx F (rs r)]) w3 (by simp) hown4 (by rw [hL]; omega) (by rw [← HALL.out]; exact HL.out))
        rw [hL] at HJ
        have HB3 := hid hb3
        have h3s := hb3.size
        have hlen2 : (((pk r 6).length : Int) + 1 == 0) = false := by simp; omega
        clear hown3 hgrow3 hnil3 hat3 hown4 hb3 hF' f1 f2 f3 f4 f5 hL
        go_wp2_with fail
        refine HJ.out.mono ?_
        rintro e w5 ⟨rfl, hb5⟩
        have HB5 := hid hb5
        clear hb5
        go_wp2
        go_ret
        refine ⟨?_, HB3.out.trans (HB5.out.mono h3s)⟩
        rw [got, if_neg (by rw [HALL.out]; simp), HALL.out, List.map_append, List.map_singleton]
        rfl
end Go.Proofs.YbulklayFmt
