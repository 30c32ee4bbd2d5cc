import Derived.Test.YbulkktkFmtTwo
import Derived.Test.YbulkktkFmtShape
namespace Go.Proofs.YbulkktkFmt
open Go.RowKit Go.Kit Go.Extern.Stop Go.Stop Go.Extern
open Plain
set_option linter.unusedSimpArgs false

/-- A slice of slices of octets that came in. -/
structure PartsIn (w : World) (aP : Option Addr) (N cP : Nat) (A : Nat → Option Addr) (C : Nat → Nat) (Z : Nat → List Int) : Prop where
  cells : 0 < N → ∃ blk off, aP = some ⟨blk, off, none⟩ ∧ ∀ j, j < N → w.cell? ⟨blk, off + j, none⟩ = some (.slice (A j) (Z j).length (C j))
  rows : ∀ j, j < N → RowIn w (A j) (C j) (Z j)

set_option maxHeartbeats 400000 in
theorem print_long (N : Nat) (aP : Option Addr) (cP : Nat) (w : World) (hN : 256 < N) (hmax : N ≤ 9223372036854775807) :
    Calls Ybaf.prog 3 #[.slice aP N cP] w fun e w' => e = .returned (.bool true) ∧ Below w.heap.size w w' := by
  go_enter Ybaf.func3, Ybaf.ntmps3
  go_wp2
  go_ret
  exact ⟨rfl, Below.refl _ _⟩

theorem getD_get (l : List Int) (j : Nat) (h : j < l.length) : l.getD j 0 = l[j] := by simp [List.getD, h]

/-- An owned row of octets, as textTXT takes it. -/
theorem own_row {w : World} {B : Nat} {v : Value} {l : List UInt8} (h : w.ownsRow B 5 1 v l.length (Lib.byteCells l)) : ∃ ao cp, v = .slice ao l.length cp ∧ RowIn w ao cp (ints l) := by
  rcases h.2 with ⟨rfl, h0⟩ | ⟨g, cap, cur, rfl, _, hg, hn, hm, _, _⟩
  · refine ⟨none, 0, by rw [h0], ?_, by unfold maxLen; omega, ints_wf l, fun hne => ?_⟩
    · rw [ints_length, h0]; omega
    · exact absurd (by rw [ints_length, h0] : (ints l).length = 0) (by intro e; exact hne (List.length_eq_zero_iff.1 e))
  · refine ⟨some ⟨g, 0, none⟩, cap, rfl, by rw [ints_length]; exact hn, hm, ints_wf l, fun _ => ⟨g, 0, rfl, fun j hj => ?_⟩⟩
    rw [ints_length] at hj
    rw [Nat.zero_add, h.cellAt j (by omega)]
    simp [Lib.byteCells, ints, List.getD, hj]

theorem textTXT_of (F : Interp) {w wr : World} {v u : Value} {xs ys : List UInt8} (h : Two w wr v u xs ys) (hF : F.told.answers w.tape) (hl : (ints xs).length ≤ 1048576) :
    ∃ ao cp, v = .slice ao xs.length cp ∧ Calls Ybaf.prog 6 #[.slice ao xs.length cp] wr fun e w' => e = .returned (.tuple #[.string ⟨(outS (ints xs)).toArray⟩, .bool (outOk (ints xs))]) ∧ Below wr.heap.size wr w' := by
  obtain ⟨ao, cp, hv, hr⟩ := own_row h.ov
  have := textTXT_calls F (ints xs) ao cp wr hr (by rw [h.bel.tape]; exact hF) hl
  rw [ints_length] at this
  exact ⟨ao, cp, hv, this⟩
theorem want_of {w wr : World} {v u : Value} {xs ys : List UInt8} (h : Two w wr v u xs ys) (hne : ys.length ≠ 0) :
    ∃ g cp, u = .slice (some ⟨g, 0, none⟩) ys.length cp ∧ g < wr.heap.size ∧ ∀ j (hj : j < ys.length), wr.cell? ⟨g, 0 + j, none⟩ = some (.int .u8 (ys[j].toNat : Int)) := by
  have ho := h.ou
  rcases ho.2 with ⟨_, h0⟩ | ⟨g, cap, cur, rfl, _, hg, _⟩
  · exact absurd h0 hne
  · refine ⟨g, cap, rfl, (Array.getElem?_eq_some_iff.1 hg).1, fun j hj => ?_⟩
    rw [Nat.zero_add, ho.cellAt j (by omega)]
    simp [Lib.byteCells, hj]

set_option maxHeartbeats 2000000 in
set_option maxRecDepth 100000 in
theorem print_calls (F : Interp) (N : Nat) (aP : Option Addr) (cP : Nat) (A : Nat → Option Addr) (C : Nat → Nat) (Z : Nat → List Int) (w : World) (hin : PartsIn w aP N cP A C Z) (hF : F.told.answers w.tape) (hN : N ≤ 256) (hN0 : 0 < N) :
    Calls Ybaf.prog 3 #[.slice aP N cP] w fun e w' => e = .returned (.bool true) ∧ Below w.heap.size w w' := by
  obtain ⟨blk, off, rfl, hcell⟩ := hin.cells hN0
  have hblk : blk < w.heap.size := World.block_lt_of_cell? _ _ (hcell 0 hN0)
  have HI := hid hin
  have HC := hid hcell
  have HF := hid hF
  have hP : ∀ j, ((Z j).take 255).length ≤ 255 := fun j => List.length_take_le _ _
  have HP := hid hP
  clear hin hF hcell hP
  go_enter Ybaf.func3, Ybaf.ntmps3
  go_wp2
  go_loopw [3, 4, 17] (fun v3 v4 i wr => ∃ k : Nat, k ≤ N ∧ i = .int .i64 k ∧ Two w wr v3 v4 (bTo (fun j => (Z j).take 255) k) (wTo (fun j => (Z j).take 255) k)) (fun _ _ i _ => N - (intOf i).toNat)
  case atStart => exact ⟨0, Nat.zero_le _, rfl, Two.zero w⟩
  case round =>
    obtain ⟨k, hk, rfl, hT⟩ := hrel
    have HT := hid hT
    by_cases hkN : k < N
    · have hc0 := (hT.bel.cell (p := ⟨blk, off + k, none⟩) hblk).trans (HC.out k hkN)
      have HR := hid (HI.out.rows k hkN)
      have hbl := bTo_len (fun j => (Z j).take 255) HP.out k
      have hwl := wTo_bound (fun j => (Z j).take 255) HP.out k
      have HBS : Hid (bTo (fun j => (Z j).take 255) (k + 1) = bTo (fun j => (Z j).take 255) k ++ [ofI ((Z k).take 255).length] ++ ((Z k).take 255).map mb) := hid rfl
      have HWS : Hid (wTo (fun j => (Z j).take 255) (k + 1) = wTo (fun j => (Z j).take 255) k ++ (if 0 < k then [32] else []) ++ [34] ++ ((Z k).take 255).flatMap me ++ [34]) := hid rfl
      have HPk : Hid (((Z k).take 255).length ≤ 255) := hid (HP.out k)
      clear hT
      generalize bTo (fun j => (Z j).take 255) k = X at *
      generalize wTo (fun j => (Z j).take 255) k = Y at *
      generalize A k = ak at *
      generalize C k = ck at *
      generalize Z k = zk at *
      have hck := HR.out.le
      have hcm := HR.out.cap
      unfold maxLen at hcm
      by_cases hlong : 255 < zk.length
      · by_cases hk0 : k = 0
        · subst hk0
          rw [Nat.add_zero] at hc0
          obtain ⟨b2, o2, rfl, _⟩ := HR.out.cells (by intro h; rw [h] at hlong; simp at hlong)
          have HPL : Hid ((zk.take 255).length = 255) := hid (by simp; omega)
          go_wp2_with (first
            | (at_builtin; refine wpList_app (.tmp 27) (.tmp 31) rfl rfl 255 HT.out (by omega) (by omega) (by omega) rfl rfl ?_; intro v3 w1 h1; have HT1 := hid h1.swap; clear HT h1)
            | (at_builtin; refine wpList_app (.tmp 38) (.tmp 39) rfl rfl 34 HT1.out (by omega) (by omega) (by omega) rfl rfl ?_; intro v5 w3 h3; have HT3 := hid h3.swap; clear HT1 h3))
          have HD : Hid (∀ j, j < 255 → ∃ (c : Int) (b3 o3 : Nat), (some ⟨b2, o2, none⟩ : Option Addr) = some ⟨b3, o3, none⟩ ∧ b3 < w.heap.size ∧ (zk.take 255).getD j 0 = c ∧ 0 ≤ c ∧ c < 256 ∧ w.cell? ⟨b3, o3 + j, none⟩ = some (.int .u8 c)) := by
            intro j hj
            obtain ⟨b3, o3, e3, hc3⟩ := HR.out.cells (by intro h; rw [h] at hlong; simp at hlong)
            have hz := HR.out.wf (zk.getD j 0) (by simp [List.getD, (by omega : j < zk.length)])
            exact ⟨zk.getD j 0, b3, o3, e3, World.block_lt_of_cell? _ _ (hc3 j (by omega)), by simp [List.getD, (by omega : j < 255)], hz.1, hz.2, hc3 j (by omega)⟩
          go_loopw [3, 4, 43] (fun v3 v4 i wi => ∃ j : Nat, j ≤ 255 ∧ i = .int .i64 j ∧ Two w wi v3 v4 (X ++ [ofI 255] ++ ((zk.take 255).take j).map mb) (Y ++ [34] ++ ((zk.take 255).take j).flatMap me)) (fun _ _ i _ => 255 - (intOf i).toNat)
          case atStart => exact ⟨0, Nat.zero_le _, rfl, by rw [List.take_zero, List.map_nil, List.flatMap_nil, List.append_nil, List.append_nil]; exact HT3.out⟩
          case round =>
            obtain ⟨j, hj, rfl, hT4⟩ := hrel
            have HT4 := hid hT4
            have hfl := me_len ((zk.take 255).take j)
            have hfm : ((zk.take 255).take j).length ≤ 255 := by have h1 := List.length_take_le' j (zk.take 255); have h2 := HPk.out; omega
            by_cases hjn : j < 255
            · obtain ⟨c, b3, o3, e3, hb3, hc, hc1, hc2, hcc⟩ := HD.out j hjn
              obtain ⟨rfl, rfl⟩ : b2 = b3 ∧ o2 = o3 := by simpa using e3
              have hcell := (hT4.bel.cell (p := ⟨b2, o2 + j, none⟩) hb3).trans hcc
              have hlt : j < (zk.take 255).length := by rw [HPL.out]; exact hjn
              have hgd : (zk.take 255)[j] = c := by rw [← hc, getD_get _ _ hlt]
              have HE1 : Hid (((zk.take 255).take (j + 1)).map mb = ((zk.take 255).take j).map mb ++ [mb c]) := hid (by rw [List.take_succ_eq_append_getElem hlt, hgd]; simp)
              have HE2 : Hid (((zk.take 255).take (j + 1)).flatMap me = ((zk.take 255).take j).flatMap me ++ me c) := hid (by rw [List.take_succ_eq_append_getElem hlt, hgd]; simp)
              have hmr := mI_range c
              obtain ⟨m, hm⟩ : ∃ m, mI c = m := ⟨_, rfl⟩
              have HMI := hid hm
              rw [hm] at hmr
              clear hcc hc hT4 hgd hlt e3 hm
              generalize zk.take 255 = pk at *
              cases q1 : (m == 34)
              · cases q2 : (m == 92)
                · have HME : Hid (me c = [mb c]) := hid (by unfold me; rw [if_neg (by rw [HMI.out]; simp at q1 q2; omega)])
                  go_wp2_with (first
                    | (go_at_call 5; refine (map_calls c _ hc1 hc2).mono ?_; rintro e w4 ⟨rfl, hw4⟩; subst hw4; rw [HMI.out])
                    | (at_builtin; refine wpList_app (.tmp 49) (.tmp 51) rfl rfl m HT4.out (by omega) (by omega) (by simp only [List.length_append, List.length_cons, List.length_nil, List.length_map]; omega) rfl rfl ?_; intro v7 w7 h7; have HT7 := hid h7.swap; clear HT4 h7)
                    | (at_builtin; refine wpList_app (.tmp 62) (.tmp 64) rfl rfl m HT7.out (by omega) (by omega) (by simp only [List.length_append, List.length_cons, List.length_nil, List.length_map]; omega) rfl rfl ?_; intro v9 w9 h9; have HT9 := hid h9.swap; clear HT7 h9))
                  go_roundw
                  case rel => exact ⟨j + 1, by omega, by go_num, by rw [HE1.out, HE2.out, HME.out]; simpa [mb, HMI.out, ofI] using HT9.out⟩
                  case measure => simp [intOf]; omega
                · have HME : Hid (me c = [92, mb c]) := hid (by unfold me; rw [if_pos (Or.inr (by rw [HMI.out]; simpa using q2))])
                  go_wp2_with (first
                    | (go_at_call 5; refine (map_calls c _ hc1 hc2).mono ?_; rintro e w4 ⟨rfl, hw4⟩; subst hw4; rw [HMI.out])
                    | (at_builtin; refine wpList_app (.tmp 49) (.tmp 51) rfl rfl m HT4.out (by omega) (by omega) (by simp only [List.length_append, List.length_cons, List.length_nil, List.length_map]; omega) rfl rfl ?_; intro v7 w7 h7; have HT7 := hid h7.swap; clear HT4 h7)
                    | (at_builtin; refine wpList_app (.tmp 59) (.tmp 60) rfl rfl 92 HT7.out (by omega) (by omega) (by simp only [List.length_append, List.length_cons, List.length_nil, List.length_map]; omega) rfl rfl ?_; intro v8 w8 h8; have HT8 := hid h8; clear HT7 h8)
                    | (at_builtin; refine wpList_app (.tmp 62) (.tmp 64) rfl rfl m HT8.out (by omega) (by omega) (by simp only [List.length_append, List.length_cons, List.length_nil, List.length_map]; omega) rfl rfl ?_; intro v9 w9 h9; have HT9 := hid h9.swap; clear HT8 h9))
                  go_roundw
                  case rel => exact ⟨j + 1, by omega, by go_num, by rw [HE1.out, HE2.out, HME.out]; simpa [mb, HMI.out, ofI] using HT9.out⟩
                  case measure => simp [intOf]; omega
              · have HME : Hid (me c = [92, mb c]) := hid (by unfold me; rw [if_pos (Or.inl (by rw [HMI.out]; simpa using q1))])
                go_wp2_with (first
                  | (go_at_call 5; refine (map_calls c _ hc1 hc2).mono ?_; rintro e w4 ⟨rfl, hw4⟩; subst hw4; rw [HMI.out])
                  | (at_builtin; refine wpList_app (.tmp 49) (.tmp 51) rfl rfl m HT4.out (by omega) (by omega) (by simp only [List.length_append, List.length_cons, List.length_nil, List.length_map]; omega) rfl rfl ?_; intro v7 w7 h7; have HT7 := hid h7.swap; clear HT4 h7)
                  | (at_builtin; refine wpList_app (.tmp 59) (.tmp 60) rfl rfl 92 HT7.out (by omega) (by omega) (by simp only [List.length_append, List.length_cons, List.length_nil, List.length_map]; omega) rfl rfl ?_; intro v8 w8 h8; have HT8 := hid h8; clear HT7 h8)
                  | (at_builtin; refine wpList_app (.tmp 62) (.tmp 64) rfl rfl m HT8.out (by omega) (by omega) (by simp only [List.length_append, List.length_cons, List.length_nil, List.length_map]; omega) rfl rfl ?_; intro v9 w9 h9; have HT9 := hid h9.swap; clear HT8 h9))
                go_roundw
                case rel => exact ⟨j + 1, by omega, by go_num, by rw [HE1.out, HE2.out, HME.out]; simpa [mb, HMI.out, ofI] using HT9.out⟩
                case measure => simp [intOf]; omega
            · have hjn2 : j = 255 := by omega
              subst hjn2
              have h5 := hT4.swap
              rw [List.take_of_length_le (Nat.le_of_eq HPL.out)] at h5
              have HT5 := hid h5
              have hfl5 := me_len (zk.take 255)
              have hfm5 := HPk.out
              clear h5 hT4 HT4 hfl hfm
              go_wp2_with (first
                | (at_builtin; refine wpList_app (.tmp 67) (.tmp 68) rfl rfl 34 HT5.out (by omega) (by omega) (by simp only [List.length_append, List.length_cons, List.length_nil, List.length_map]; omega) rfl rfl ?_; intro v9 w9 h9; have HT9 := hid h9.swap; clear HT5 h9))
              go_roundw
              case rel => exact ⟨0 + 1, by omega, by go_num, by rw [HBS.out, HWS.out, HPL.out, if_neg (by omega), List.append_nil]; exact HT9.out⟩
              case measure => simp [intOf]; omega
        · obtain ⟨b2, o2, rfl, _⟩ := HR.out.cells (by intro h; rw [h] at hlong; simp at hlong)
          have HPL : Hid ((zk.take 255).length = 255) := hid (by simp; omega)
          go_wp2_with (first
            | (at_builtin; refine wpList_app (.tmp 27) (.tmp 31) rfl rfl 255 HT.out (by omega) (by omega) (by omega) rfl rfl ?_; intro v3 w1 h1; have HT1 := hid h1.swap; clear HT h1)
            | (at_builtin; refine wpList_app (.tmp 35) (.tmp 36) rfl rfl 32 HT1.out (by omega) (by omega) (by omega) rfl rfl ?_; intro v4 w2 h2; have HT2 := hid h2; clear HT1 h2)
            | (at_builtin; refine wpList_app (.tmp 38) (.tmp 39) rfl rfl 34 HT2.out (by omega) (by omega) (by simp only [List.length_append, List.length_cons, List.length_nil]; omega) rfl rfl ?_; intro v5 w3 h3; have HT3 := hid h3.swap; clear HT2 h3))
          have HD : Hid (∀ j, j < 255 → ∃ (c : Int) (b3 o3 : Nat), (some ⟨b2, o2, none⟩ : Option Addr) = some ⟨b3, o3, none⟩ ∧ b3 < w.heap.size ∧ (zk.take 255).getD j 0 = c ∧ 0 ≤ c ∧ c < 256 ∧ w.cell? ⟨b3, o3 + j, none⟩ = some (.int .u8 c)) := by
            intro j hj
            obtain ⟨b3, o3, e3, hc3⟩ := HR.out.cells (by intro h; rw [h] at hlong; simp at hlong)
            have hz := HR.out.wf (zk.getD j 0) (by simp [List.getD, (by omega : j < zk.length)])
            exact ⟨zk.getD j 0, b3, o3, e3, World.block_lt_of_cell? _ _ (hc3 j (by omega)), by simp [List.getD, (by omega : j < 255)], hz.1, hz.2, hc3 j (by omega)⟩
          go_loopw [3, 4, 43] (fun v3 v4 i wi => ∃ j : Nat, j ≤ 255 ∧ i = .int .i64 j ∧ Two w wi v3 v4 (X ++ [ofI 255] ++ ((zk.take 255).take j).map mb) (Y ++ [32] ++ [34] ++ ((zk.take 255).take j).flatMap me)) (fun _ _ i _ => 255 - (intOf i).toNat)
          case atStart => exact ⟨0, Nat.zero_le _, rfl, by rw [List.take_zero, List.map_nil, List.flatMap_nil, List.append_nil, List.append_nil]; exact HT3.out⟩
          case round =>
            obtain ⟨j, hj, rfl, hT4⟩ := hrel
            have HT4 := hid hT4
            have hfl := me_len ((zk.take 255).take j)
            have hfm : ((zk.take 255).take j).length ≤ 255 := by have h1 := List.length_take_le' j (zk.take 255); have h2 := HPk.out; omega
            by_cases hjn : j < 255
            · obtain ⟨c, b3, o3, e3, hb3, hc, hc1, hc2, hcc⟩ := HD.out j hjn
              obtain ⟨rfl, rfl⟩ : b2 = b3 ∧ o2 = o3 := by simpa using e3
              have hcell := (hT4.bel.cell (p := ⟨b2, o2 + j, none⟩) hb3).trans hcc
              have hlt : j < (zk.take 255).length := by rw [HPL.out]; exact hjn
              have hgd : (zk.take 255)[j] = c := by rw [← hc, getD_get _ _ hlt]
              have HE1 : Hid (((zk.take 255).take (j + 1)).map mb = ((zk.take 255).take j).map mb ++ [mb c]) := hid (by rw [List.take_succ_eq_append_getElem hlt, hgd]; simp)
              have HE2 : Hid (((zk.take 255).take (j + 1)).flatMap me = ((zk.take 255).take j).flatMap me ++ me c) := hid (by rw [List.take_succ_eq_append_getElem hlt, hgd]; simp)
              have hmr := mI_range c
              obtain ⟨m, hm⟩ : ∃ m, mI c = m := ⟨_, rfl⟩
              have HMI := hid hm
              rw [hm] at hmr
              clear hcc hc hT4 hgd hlt e3 hm
              generalize zk.take 255 = pk at *
              cases q1 : (m == 34)
              · cases q2 : (m == 92)
                · have HME : Hid (me c = [mb c]) := hid (by unfold me; rw [if_neg (by rw [HMI.out]; simp at q1 q2; omega)])
                  go_wp2_with (first
                    | (go_at_call 5; refine (map_calls c _ hc1 hc2).mono ?_; rintro e w4 ⟨rfl, hw4⟩; subst hw4; rw [HMI.out])
                    | (at_builtin; refine wpList_app (.tmp 49) (.tmp 51) rfl rfl m HT4.out (by omega) (by omega) (by simp only [List.length_append, List.length_cons, List.length_nil, List.length_map]; omega) rfl rfl ?_; intro v7 w7 h7; have HT7 := hid h7.swap; clear HT4 h7)
                    | (at_builtin; refine wpList_app (.tmp 62) (.tmp 64) rfl rfl m HT7.out (by omega) (by omega) (by simp only [List.length_append, List.length_cons, List.length_nil, List.length_map]; omega) rfl rfl ?_; intro v9 w9 h9; have HT9 := hid h9.swap; clear HT7 h9))
                  go_roundw
                  case rel => exact ⟨j + 1, by omega, by go_num, by rw [HE1.out, HE2.out, HME.out]; simpa [mb, HMI.out, ofI] using HT9.out⟩
                  case measure => simp [intOf]; omega
                · have HME : Hid (me c = [92, mb c]) := hid (by unfold me; rw [if_pos (Or.inr (by rw [HMI.out]; simpa using q2))])
                  go_wp2_with (first
                    | (go_at_call 5; refine (map_calls c _ hc1 hc2).mono ?_; rintro e w4 ⟨rfl, hw4⟩; subst hw4; rw [HMI.out])
                    | (at_builtin; refine wpList_app (.tmp 49) (.tmp 51) rfl rfl m HT4.out (by omega) (by omega) (by simp only [List.length_append, List.length_cons, List.length_nil, List.length_map]; omega) rfl rfl ?_; intro v7 w7 h7; have HT7 := hid h7.swap; clear HT4 h7)
                    | (at_builtin; refine wpList_app (.tmp 59) (.tmp 60) rfl rfl 92 HT7.out (by omega) (by omega) (by simp only [List.length_append, List.length_cons, List.length_nil, List.length_map]; omega) rfl rfl ?_; intro v8 w8 h8; have HT8 := hid h8; clear HT7 h8)
                    | (at_builtin; refine wpList_app (.tmp 62) (.tmp 64) rfl rfl m HT8.out (by omega) (by omega) (by simp only [List.length_append, List.length_cons, List.length_nil, List.length_map]; omega) rfl rfl ?_; intro v9 w9 h9; have HT9 := hid h9.swap; clear HT8 h9))
                  go_roundw
                  case rel => exact ⟨j + 1, by omega, by go_num, by rw [HE1.out, HE2.out, HME.out]; simpa [mb, HMI.out, ofI] using HT9.out⟩
                  case measure => simp [intOf]; omega
              · have HME : Hid (me c = [92, mb c]) := hid (by unfold me; rw [if_pos (Or.inl (by rw [HMI.out]; simpa using q1))])
                go_wp2_with (first
                  | (go_at_call 5; refine (map_calls c _ hc1 hc2).mono ?_; rintro e w4 ⟨rfl, hw4⟩; subst hw4; rw [HMI.out])
                  | (at_builtin; refine wpList_app (.tmp 49) (.tmp 51) rfl rfl m HT4.out (by omega) (by omega) (by simp only [List.length_append, List.length_cons, List.length_nil, List.length_map]; omega) rfl rfl ?_; intro v7 w7 h7; have HT7 := hid h7.swap; clear HT4 h7)
                  | (at_builtin; refine wpList_app (.tmp 59) (.tmp 60) rfl rfl 92 HT7.out (by omega) (by omega) (by simp only [List.length_append, List.length_cons, List.length_nil, List.length_map]; omega) rfl rfl ?_; intro v8 w8 h8; have HT8 := hid h8; clear HT7 h8)
                  | (at_builtin; refine wpList_app (.tmp 62) (.tmp 64) rfl rfl m HT8.out (by omega) (by omega) (by simp only [List.length_append, List.length_cons, List.length_nil, List.length_map]; omega) rfl rfl ?_; intro v9 w9 h9; have HT9 := hid h9.swap; clear HT8 h9))
                go_roundw
                case rel => exact ⟨j + 1, by omega, by go_num, by rw [HE1.out, HE2.out, HME.out]; simpa [mb, HMI.out, ofI] using HT9.out⟩
                case measure => simp [intOf]; omega
            · have hjn2 : j = 255 := by omega
              subst hjn2
              have h5 := hT4.swap
              rw [List.take_of_length_le (Nat.le_of_eq HPL.out)] at h5
              have HT5 := hid h5
              have hfl5 := me_len (zk.take 255)
              have hfm5 := HPk.out
              clear h5 hT4 HT4 hfl hfm
              go_wp2_with (first
                | (at_builtin; refine wpList_app (.tmp 67) (.tmp 68) rfl rfl 34 HT5.out (by omega) (by omega) (by simp only [List.length_append, List.length_cons, List.length_nil, List.length_map]; omega) rfl rfl ?_; intro v9 w9 h9; have HT9 := hid h9.swap; clear HT5 h9))
              go_roundw
              case rel => exact ⟨k + 1, by omega, by go_num, by rw [HBS.out, HWS.out, HPL.out, if_pos (by omega)]; exact HT9.out⟩
              case measure => simp [intOf]; omega
      · by_cases hk0 : k = 0
        · subst hk0
          rw [Nat.add_zero] at hc0
          have HPL : Hid ((zk.take 255).length = zk.length) := hid (by simp; omega)
          go_wp2_with (first
            | (at_builtin; refine wpList_app (.tmp 27) (.tmp 31) rfl rfl (zk.length : Int) HT.out (by omega) (by omega) (by omega) rfl rfl ?_; intro v3 w1 h1; have HT1 := hid h1.swap; clear HT h1)
            | (at_builtin; refine wpList_app (.tmp 38) (.tmp 39) rfl rfl 34 HT1.out (by omega) (by omega) (by omega) rfl rfl ?_; intro v5 w3 h3; have HT3 := hid h3.swap; clear HT1 h3))
          have HD : Hid (∀ j, j < zk.length → ∃ (c : Int) (b3 o3 : Nat), ak = some ⟨b3, o3, none⟩ ∧ b3 < w.heap.size ∧ (zk.take 255).getD j 0 = c ∧ 0 ≤ c ∧ c < 256 ∧ w.cell? ⟨b3, o3 + j, none⟩ = some (.int .u8 c)) := by
            intro j hj
            obtain ⟨b3, o3, e3, hc3⟩ := HR.out.cells (by intro h; rw [h] at hj; simp at hj)
            have hz := HR.out.wf (zk.getD j 0) (by simp [List.getD, (by omega : j < zk.length)])
            exact ⟨zk.getD j 0, b3, o3, e3, World.block_lt_of_cell? _ _ (hc3 j (by omega)), by simp [List.getD, (by omega : j < 255)], hz.1, hz.2, hc3 j (by omega)⟩
          go_loopw [3, 4, 43] (fun v3 v4 i wi => ∃ j : Nat, j ≤ zk.length ∧ i = .int .i64 j ∧ Two w wi v3 v4 (X ++ [ofI (zk.length : Int)] ++ ((zk.take 255).take j).map mb) (Y ++ [34] ++ ((zk.take 255).take j).flatMap me)) (fun _ _ i _ => zk.length - (intOf i).toNat)
          case atStart => exact ⟨0, Nat.zero_le _, rfl, by rw [List.take_zero, List.map_nil, List.flatMap_nil, List.append_nil, List.append_nil]; exact HT3.out⟩
          case round =>
            obtain ⟨j, hj, rfl, hT4⟩ := hrel
            have HT4 := hid hT4
            have hfl := me_len ((zk.take 255).take j)
            have hfm : ((zk.take 255).take j).length ≤ 255 := by have h1 := List.length_take_le' j (zk.take 255); have h2 := HPk.out; omega
            by_cases hjn : j < zk.length
            · obtain ⟨c, b3, o3, e3, hb3, hc, hc1, hc2, hcc⟩ := HD.out j hjn
              subst e3
              have hcell := (hT4.bel.cell (p := ⟨b3, o3 + j, none⟩) hb3).trans hcc
              have hlt : j < (zk.take 255).length := by rw [HPL.out]; exact hjn
              have hgd : (zk.take 255)[j] = c := by rw [← hc, getD_get _ _ hlt]
              have HE1 : Hid (((zk.take 255).take (j + 1)).map mb = ((zk.take 255).take j).map mb ++ [mb c]) := hid (by rw [List.take_succ_eq_append_getElem hlt, hgd]; simp)
              have HE2 : Hid (((zk.take 255).take (j + 1)).flatMap me = ((zk.take 255).take j).flatMap me ++ me c) := hid (by rw [List.take_succ_eq_append_getElem hlt, hgd]; simp)
              have hmr := mI_range c
              obtain ⟨m, hm⟩ : ∃ m, mI c = m := ⟨_, rfl⟩
              have HMI := hid hm
              rw [hm] at hmr
              clear hcc hc hT4 hgd hlt hm
              generalize zk.take 255 = pk at *
              cases q1 : (m == 34)
              · cases q2 : (m == 92)
                · have HME : Hid (me c = [mb c]) := hid (by unfold me; rw [if_neg (by rw [HMI.out]; simp at q1 q2; omega)])
                  go_wp2_with (first
                    | (go_at_call 5; refine (map_calls c _ hc1 hc2).mono ?_; rintro e w4 ⟨rfl, hw4⟩; subst hw4; rw [HMI.out])
                    | (at_builtin; refine wpList_app (.tmp 49) (.tmp 51) rfl rfl m HT4.out (by omega) (by omega) (by simp only [List.length_append, List.length_cons, List.length_nil, List.length_map]; omega) rfl rfl ?_; intro v7 w7 h7; have HT7 := hid h7.swap; clear HT4 h7)
                    | (at_builtin; refine wpList_app (.tmp 62) (.tmp 64) rfl rfl m HT7.out (by omega) (by omega) (by simp only [List.length_append, List.length_cons, List.length_nil, List.length_map]; omega) rfl rfl ?_; intro v9 w9 h9; have HT9 := hid h9.swap; clear HT7 h9))
                  go_roundw
                  case rel => exact ⟨j + 1, by omega, by go_num, by rw [HE1.out, HE2.out, HME.out]; simpa [mb, HMI.out, ofI] using HT9.out⟩
                  case measure => simp [intOf]; omega
                · have HME : Hid (me c = [92, mb c]) := hid (by unfold me; rw [if_pos (Or.inr (by rw [HMI.out]; simpa using q2))])
                  go_wp2_with (first
                    | (go_at_call 5; refine (map_calls c _ hc1 hc2).mono ?_; rintro e w4 ⟨rfl, hw4⟩; subst hw4; rw [HMI.out])
                    | (at_builtin; refine wpList_app (.tmp 49) (.tmp 51) rfl rfl m HT4.out (by omega) (by omega) (by simp only [List.length_append, List.length_cons, List.length_nil, List.length_map]; omega) rfl rfl ?_; intro v7 w7 h7; have HT7 := hid h7.swap; clear HT4 h7)
                    | (at_builtin; refine wpList_app (.tmp 59) (.tmp 60) rfl rfl 92 HT7.out (by omega) (by omega) (by simp only [List.length_append, List.length_cons, List.length_nil, List.length_map]; omega) rfl rfl ?_; intro v8 w8 h8; have HT8 := hid h8; clear HT7 h8)
                    | (at_builtin; refine wpList_app (.tmp 62) (.tmp 64) rfl rfl m HT8.out (by omega) (by omega) (by simp only [List.length_append, List.length_cons, List.length_nil, List.length_map]; omega) rfl rfl ?_; intro v9 w9 h9; have HT9 := hid h9.swap; clear HT8 h9))
                  go_roundw
                  case rel => exact ⟨j + 1, by omega, by go_num, by rw [HE1.out, HE2.out, HME.out]; simpa [mb, HMI.out, ofI] using HT9.out⟩
                  case measure => simp [intOf]; omega
              · have HME : Hid (me c = [92, mb c]) := hid (by unfold me; rw [if_pos (Or.inl (by rw [HMI.out]; simpa using q1))])
                go_wp2_with (first
                  | (go_at_call 5; refine (map_calls c _ hc1 hc2).mono ?_; rintro e w4 ⟨rfl, hw4⟩; subst hw4; rw [HMI.out])
                  | (at_builtin; refine wpList_app (.tmp 49) (.tmp 51) rfl rfl m HT4.out (by omega) (by omega) (by simp only [List.length_append, List.length_cons, List.length_nil, List.length_map]; omega) rfl rfl ?_; intro v7 w7 h7; have HT7 := hid h7.swap; clear HT4 h7)
                  | (at_builtin; refine wpList_app (.tmp 59) (.tmp 60) rfl rfl 92 HT7.out (by omega) (by omega) (by simp only [List.length_append, List.length_cons, List.length_nil, List.length_map]; omega) rfl rfl ?_; intro v8 w8 h8; have HT8 := hid h8; clear HT7 h8)
                  | (at_builtin; refine wpList_app (.tmp 62) (.tmp 64) rfl rfl m HT8.out (by omega) (by omega) (by simp only [List.length_append, List.length_cons, List.length_nil, List.length_map]; omega) rfl rfl ?_; intro v9 w9 h9; have HT9 := hid h9.swap; clear HT8 h9))
                go_roundw
                case rel => exact ⟨j + 1, by omega, by go_num, by rw [HE1.out, HE2.out, HME.out]; simpa [mb, HMI.out, ofI] using HT9.out⟩
                case measure => simp [intOf]; omega
            · have hjn2 : j = zk.length := by omega
              subst hjn2
              have h5 := hT4.swap
              rw [List.take_of_length_le (Nat.le_of_eq HPL.out)] at h5
              have HT5 := hid h5
              have hfl5 := me_len (zk.take 255)
              have hfm5 := HPk.out
              clear h5 hT4 HT4 hfl hfm
              go_wp2_with (first
                | (at_builtin; refine wpList_app (.tmp 67) (.tmp 68) rfl rfl 34 HT5.out (by omega) (by omega) (by simp only [List.length_append, List.length_cons, List.length_nil, List.length_map]; omega) rfl rfl ?_; intro v9 w9 h9; have HT9 := hid h9.swap; clear HT5 h9))
              go_roundw
              case rel => exact ⟨0 + 1, by omega, by go_num, by rw [HBS.out, HWS.out, HPL.out, if_neg (by omega), List.append_nil]; exact HT9.out⟩
              case measure => simp [intOf]; omega
        · have HPL : Hid ((zk.take 255).length = zk.length) := hid (by simp; omega)
          go_wp2_with (first
            | (at_builtin; refine wpList_app (.tmp 27) (.tmp 31) rfl rfl (zk.length : Int) HT.out (by omega) (by omega) (by omega) rfl rfl ?_; intro v3 w1 h1; have HT1 := hid h1.swap; clear HT h1)
            | (at_builtin; refine wpList_app (.tmp 35) (.tmp 36) rfl rfl 32 HT1.out (by omega) (by omega) (by omega) rfl rfl ?_; intro v4 w2 h2; have HT2 := hid h2; clear HT1 h2)
            | (at_builtin; refine wpList_app (.tmp 38) (.tmp 39) rfl rfl 34 HT2.out (by omega) (by omega) (by simp only [List.length_append, List.length_cons, List.length_nil]; omega) rfl rfl ?_; intro v5 w3 h3; have HT3 := hid h3.swap; clear HT2 h3))
          have HD : Hid (∀ j, j < zk.length → ∃ (c : Int) (b3 o3 : Nat), ak = some ⟨b3, o3, none⟩ ∧ b3 < w.heap.size ∧ (zk.take 255).getD j 0 = c ∧ 0 ≤ c ∧ c < 256 ∧ w.cell? ⟨b3, o3 + j, none⟩ = some (.int .u8 c)) := by
            intro j hj
            obtain ⟨b3, o3, e3, hc3⟩ := HR.out.cells (by intro h; rw [h] at hj; simp at hj)
            have hz := HR.out.wf (zk.getD j 0) (by simp [List.getD, (by omega : j < zk.length)])
            exact ⟨zk.getD j 0, b3, o3, e3, World.block_lt_of_cell? _ _ (hc3 j (by omega)), by simp [List.getD, (by omega : j < 255)], hz.1, hz.2, hc3 j (by omega)⟩
          go_loopw [3, 4, 43] (fun v3 v4 i wi => ∃ j : Nat, j ≤ zk.length ∧ i = .int .i64 j ∧ Two w wi v3 v4 (X ++ [ofI (zk.length : Int)] ++ ((zk.take 255).take j).map mb) (Y ++ [32] ++ [34] ++ ((zk.take 255).take j).flatMap me)) (fun _ _ i _ => zk.length - (intOf i).toNat)
          case atStart => exact ⟨0, Nat.zero_le _, rfl, by rw [List.take_zero, List.map_nil, List.flatMap_nil, List.append_nil, List.append_nil]; exact HT3.out⟩
          case round =>
            obtain ⟨j, hj, rfl, hT4⟩ := hrel
            have HT4 := hid hT4
            have hfl := me_len ((zk.take 255).take j)
            have hfm : ((zk.take 255).take j).length ≤ 255 := by have h1 := List.length_take_le' j (zk.take 255); have h2 := HPk.out; omega
            by_cases hjn : j < zk.length
            · obtain ⟨c, b3, o3, e3, hb3, hc, hc1, hc2, hcc⟩ := HD.out j hjn
              subst e3
              have hcell := (hT4.bel.cell (p := ⟨b3, o3 + j, none⟩) hb3).trans hcc
              have hlt : j < (zk.take 255).length := by rw [HPL.out]; exact hjn
              have hgd : (zk.take 255)[j] = c := by rw [← hc, getD_get _ _ hlt]
              have HE1 : Hid (((zk.take 255).take (j + 1)).map mb = ((zk.take 255).take j).map mb ++ [mb c]) := hid (by rw [List.take_succ_eq_append_getElem hlt, hgd]; simp)
              have HE2 : Hid (((zk.take 255).take (j + 1)).flatMap me = ((zk.take 255).take j).flatMap me ++ me c) := hid (by rw [List.take_succ_eq_append_getElem hlt, hgd]; simp)
              have hmr := mI_range c
              obtain ⟨m, hm⟩ : ∃ m, mI c = m := ⟨_, rfl⟩
              have HMI := hid hm
              rw [hm] at hmr
              clear hcc hc hT4 hgd hlt hm
              generalize zk.take 255 = pk at *
              cases q1 : (m == 34)
              · cases q2 : (m == 92)
                · have HME : Hid (me c = [mb c]) := hid (by unfold me; rw [if_neg (by rw [HMI.out]; simp at q1 q2; omega)])
                  go_wp2_with (first
                    | (go_at_call 5; refine (map_calls c _ hc1 hc2).mono ?_; rintro e w4 ⟨rfl, hw4⟩; subst hw4; rw [HMI.out])
                    | (at_builtin; refine wpList_app (.tmp 49) (.tmp 51) rfl rfl m HT4.out (by omega) (by omega) (by simp only [List.length_append, List.length_cons, List.length_nil, List.length_map]; omega) rfl rfl ?_; intro v7 w7 h7; have HT7 := hid h7.swap; clear HT4 h7)
                    | (at_builtin; refine wpList_app (.tmp 62) (.tmp 64) rfl rfl m HT7.out (by omega) (by omega) (by simp only [List.length_append, List.length_cons, List.length_nil, List.length_map]; omega) rfl rfl ?_; intro v9 w9 h9; have HT9 := hid h9.swap; clear HT7 h9))
                  go_roundw
                  case rel => exact ⟨j + 1, by omega, by go_num, by rw [HE1.out, HE2.out, HME.out]; simpa [mb, HMI.out, ofI] using HT9.out⟩
                  case measure => simp [intOf]; omega
                · have HME : Hid (me c = [92, mb c]) := hid (by unfold me; rw [if_pos (Or.inr (by rw [HMI.out]; simpa using q2))])
                  go_wp2_with (first
                    | (go_at_call 5; refine (map_calls c _ hc1 hc2).mono ?_; rintro e w4 ⟨rfl, hw4⟩; subst hw4; rw [HMI.out])
                    | (at_builtin; refine wpList_app (.tmp 49) (.tmp 51) rfl rfl m HT4.out (by omega) (by omega) (by simp only [List.length_append, List.length_cons, List.length_nil, List.length_map]; omega) rfl rfl ?_; intro v7 w7 h7; have HT7 := hid h7.swap; clear HT4 h7)
                    | (at_builtin; refine wpList_app (.tmp 59) (.tmp 60) rfl rfl 92 HT7.out (by omega) (by omega) (by simp only [List.length_append, List.length_cons, List.length_nil, List.length_map]; omega) rfl rfl ?_; intro v8 w8 h8; have HT8 := hid h8; clear HT7 h8)
                    | (at_builtin; refine wpList_app (.tmp 62) (.tmp 64) rfl rfl m HT8.out (by omega) (by omega) (by simp only [List.length_append, List.length_cons, List.length_nil, List.length_map]; omega) rfl rfl ?_; intro v9 w9 h9; have HT9 := hid h9.swap; clear HT8 h9))
                  go_roundw
                  case rel => exact ⟨j + 1, by omega, by go_num, by rw [HE1.out, HE2.out, HME.out]; simpa [mb, HMI.out, ofI] using HT9.out⟩
                  case measure => simp [intOf]; omega
              · have HME : Hid (me c = [92, mb c]) := hid (by unfold me; rw [if_pos (Or.inl (by rw [HMI.out]; simpa using q1))])
                go_wp2_with (first
                  | (go_at_call 5; refine (map_calls c _ hc1 hc2).mono ?_; rintro e w4 ⟨rfl, hw4⟩; subst hw4; rw [HMI.out])
                  | (at_builtin; refine wpList_app (.tmp 49) (.tmp 51) rfl rfl m HT4.out (by omega) (by omega) (by simp only [List.length_append, List.length_cons, List.length_nil, List.length_map]; omega) rfl rfl ?_; intro v7 w7 h7; have HT7 := hid h7.swap; clear HT4 h7)
                  | (at_builtin; refine wpList_app (.tmp 59) (.tmp 60) rfl rfl 92 HT7.out (by omega) (by omega) (by simp only [List.length_append, List.length_cons, List.length_nil, List.length_map]; omega) rfl rfl ?_; intro v8 w8 h8; have HT8 := hid h8; clear HT7 h8)
                  | (at_builtin; refine wpList_app (.tmp 62) (.tmp 64) rfl rfl m HT8.out (by omega) (by omega) (by simp only [List.length_append, List.length_cons, List.length_nil, List.length_map]; omega) rfl rfl ?_; intro v9 w9 h9; have HT9 := hid h9.swap; clear HT8 h9))
                go_roundw
                case rel => exact ⟨j + 1, by omega, by go_num, by rw [HE1.out, HE2.out, HME.out]; simpa [mb, HMI.out, ofI] using HT9.out⟩
                case measure => simp [intOf]; omega
            · have hjn2 : j = zk.length := by omega
              subst hjn2
              have h5 := hT4.swap
              rw [List.take_of_length_le (Nat.le_of_eq HPL.out)] at h5
              have HT5 := hid h5
              have hfl5 := me_len (zk.take 255)
              have hfm5 := HPk.out
              clear h5 hT4 HT4 hfl hfm
              go_wp2_with (first
                | (at_builtin; refine wpList_app (.tmp 67) (.tmp 68) rfl rfl 34 HT5.out (by omega) (by omega) (by simp only [List.length_append, List.length_cons, List.length_nil, List.length_map]; omega) rfl rfl ?_; intro v9 w9 h9; have HT9 := hid h9.swap; clear HT5 h9))
              go_roundw
              case rel => exact ⟨k + 1, by omega, by go_num, by rw [HBS.out, HWS.out, HPL.out, if_pos (by omega)]; exact HT9.out⟩
              case measure => simp [intOf]; omega
    · have hkN2 : k = N := by omega
      subst hkN2
      have hbl := bTo_len (fun j => (Z j).take 255) HP.out k
      have HX := textTXT_of F hT HF.out (by rw [ints_length]; omega)
      rw [out_printable _ HP.out, ok_printable _ HP.out, decide_eq_true hN0] at HX
      obtain ⟨ao, cp, hv3, HX⟩ := HX
      obtain ⟨g4, cp4, hv4, hg4, hc4⟩ := want_of hT (by intro e; have := (wTo_len (fun j => (Z j).take 255) k).1 e; omega)
      have hbw := hT.bel
      generalize bTo (fun j => (Z j).take 255) k = X at *
      generalize wTo (fun j => (Z j).take 255) k = Y at *
      subst hv3
      subst hv4
      have HXX := hid HX
      have HBW := hid hbw
      have HC4 := hid hc4
      clear HX hbw hc4 hT HT HI HC HP
      go_wp2_with fail
      refine HXX.out.mono ?_
      rintro e w2 ⟨rfl, h2⟩
      have hcv := run_convert_bytes_back (P := Ybaf.prog) w2 23 9 5 ⟨g4, 0, none⟩ cp4 Y Ybaf.underlying23 Ybaf.underlying5 Ybaf.underlying9 (fun j hj => by
        rw [Addr.add_lit, h2.cell (p := ⟨g4, 0 + j, none⟩) hg4]; exact HC4.out j hj)
      have HW2 := hid (HBW.out.trans (h2.mono HBW.out.size))
      have hNb : ((k : Int) == 0) = false := by rw [beq_eq_false_iff_ne]; omega
      clear h2 HXX
      go_wp2
      go_ret
      exact ⟨by simp, HW2.out⟩

set_option maxHeartbeats 400000 in
set_option maxRecDepth 100000 in
theorem print_nil (F : Interp) (aP : Option Addr) (cP : Nat) (w : World) (hF : F.told.answers w.tape) :
    Calls Ybaf.prog 3 #[.slice aP 0 cP] w fun e w' => e = .returned (.bool true) ∧ Below w.heap.size w w' := by
  have HX : Calls Ybaf.prog 6 #[.slice none 0 0] w fun e w' => e = .returned (.tuple #[.string ⟨#[]⟩, .bool false]) ∧ Below w.heap.size w w' := textTXT_calls F [] none 0 w ⟨by simp, by unfold maxLen; omega, by simp, fun h => absurd rfl h⟩ hF (by simp)
  have HXX := hid HX
  clear HX hF
  go_enter Ybaf.func3, Ybaf.ntmps3
  go_wp2
  go_loop [3, 4, 17] (fun v3 v4 i => v3 = .slice none 0 0 ∧ v4 = .slice none 0 0 ∧ i = .int .i64 0) (fun _ _ _ => 0)
  case atStart => exact ⟨rfl, rfl, rfl⟩
  case round =>
    obtain ⟨rfl, rfl, rfl⟩ := hrel
    go_wp2_with fail
    refine HXX.out.mono ?_
    rintro e w2 ⟨rfl, h2⟩
    go_wp2
    go_ret
    exact ⟨rfl, h2⟩

/-- LawS0569BPrintable: true at every slice of slices of octets. -/
theorem print_any (F : Interp) (N : Nat) (aP : Option Addr) (cP : Nat) (A : Nat → Option Addr) (C : Nat → Nat) (Z : Nat → List Int) (w : World) (hin : PartsIn w aP N cP A C Z) (hF : F.told.answers w.tape) (hmax : N ≤ maxLen) :
    Calls Ybaf.prog 3 #[.slice aP N cP] w fun e w' => e = .returned (.bool true) ∧ Below w.heap.size w w' := by
  unfold maxLen at hmax
  by_cases h : 256 < N
  · exact print_long N aP cP w h (by omega)
  · by_cases h0 : N = 0
    · subst h0
      exact print_nil F aP cP w hF
    · exact print_calls F N aP cP A C Z w hin hF (by omega) (by omega)
end Go.Proofs.YbulkktkFmt
