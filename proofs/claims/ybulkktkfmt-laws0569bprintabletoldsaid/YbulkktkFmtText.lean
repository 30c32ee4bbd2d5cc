import Derived.Test.YbulkktkFmtFmt
namespace Go.Proofs.YbulkktkFmt
open Go.RowKit Go.Kit Go.Extern.Stop Go.Stop Go.Extern
open Plain

/-- A slice of octets that came in: nil where it is empty, or a row of cells. -/
structure RowIn (w : World) (ao : Option Addr) (cp : Nat) (zs : List Int) : Prop where
  le : zs.length ≤ cp
  cap : cp ≤ maxLen
  wf : ∀ z ∈ zs, 0 ≤ z ∧ z < 256
  cells : zs ≠ [] → ∃ blk off, ao = some ⟨blk, off, none⟩ ∧ ∀ j, j < zs.length → w.cell? ⟨blk, off + j, none⟩ = some (.int .u8 (zs.getD j 0))

theorem hid {p : Prop} (h : p) : Hid p := h
def lenOf : Value → Nat | .slice _ n _ => n | _ => 0
theorem byteCells_snoc (l : List UInt8) (c : Int) (h0 : 0 ≤ c) (h1 : c < 256) : Lib.byteCells l ++ [.int .u8 c] = Lib.byteCells (l ++ [ofI c]) := by
  simp [Lib.byteCells, ofI]
  omega
theorem byteCells_app (l m : List UInt8) : Lib.byteCells l ++ Lib.byteCells m = Lib.byteCells (l ++ m) := by
  simp [Lib.byteCells]

/-- The builder and the frame, as the loops carry them. -/
def St (w : World) (acc : List UInt8) (wr : World) : Prop := Lib.IsBuilderF 31 5 w.heap.size w.heap.size (Lib.byteCells acc) wr ∧ Below w.heap.size w wr

theorem st_write (w : World) (acc : List UInt8) (c : Int) (wr : World) (h : St w acc wr) (h0 : 0 ≤ c) (h1 : c < 256) (hl : acc.length ≤ 100000000) :
    Calls Ybaf.prog 8 #[.pointer (some ⟨w.heap.size, 0, none⟩), .int .u8 c] wr fun e w' => e = .returned .nilIface ∧ St w (acc ++ [ofI c]) w' := by
  refine (writeByte_calls w.heap.size w.heap.size (Lib.byteCells acc) c wr h.1 (by rw [Lib.byteCells_length]; omega) h.2.size).mono ?_
  rintro e w1 ⟨rfl, h2, b2⟩
  rw [byteCells_snoc acc c h0 h1] at h2
  exact ⟨rfl, h2, h.2.trans b2⟩
theorem st_fprintf (F : Interp) (w : World) (acc : List UInt8) (c : Int) (wr : World) (h : St w acc wr) (hF : F.told.answers w.tape) (h0 : 0 ≤ c) (h1 : c < 256) (hw : (Lit.int .u8 c).wf = true) (hl : acc.length ≤ 100000000) :
    Calls Ybaf.prog 9 #[.iface 29 (.pointer (some ⟨w.heap.size, 0, none⟩)), .string ⟨#[92, 37, 48, 51, 100]⟩, .slice (some ⟨wr.heap.size, 0, none⟩) 1 1] (wr.alloc (.cells #[.iface 5 (.int .u8 c)] 20)) fun e w' => e = .returned (.tuple #[.int .i64 4, .nilIface]) ∧ St w (acc ++ esc3 c) w' := by
  refine (fprintf_calls F.told w.heap.size w.heap.size (Lib.byteCells acc) c wr h.1 (by rw [h.2.tape]; exact hF) (tx_told F c hw h0 h1) (esc3_len c h0 h1) (by rw [Lib.byteCells_length]; omega) h.2.size).mono ?_
  rintro e w1 ⟨rfl, h2, b2⟩
  rw [byteCells_app] at h2
  exact ⟨rfl, h2, h.2.trans b2⟩
theorem st_len (w : World) (acc : List UInt8) (wr : World) (h : St w acc wr) :
    Calls Ybaf.prog 7 #[.pointer (some ⟨w.heap.size, 0, none⟩)] wr fun e w' => e = .returned (.int .i64 acc.length) ∧ wr = w' := by
  refine (Ybaf.Builder_Len_f w.heap.size w.heap.size _ wr h.1).mono ?_
  rintro e w1 ⟨rfl, rfl⟩
  exact ⟨by rw [Lib.byteCells_length], rfl⟩
theorem st_string (w : World) (acc : List UInt8) (wr : World) (h : St w acc wr) :
    Calls Ybaf.prog 10 #[.pointer (some ⟨w.heap.size, 0, none⟩)] wr fun e w' => e = .returned (.string ⟨acc.toArray⟩) ∧ St w acc w' := by
  refine (Ybaf.Builder_String_any_f w.heap.size w.heap.size acc wr h.1 h.2.size).mono ?_
  rintro e w1 ⟨rfl, h2, b2⟩
  exact ⟨rfl, h2, h.2.trans b2⟩
theorem ret_tx {a b : List UInt8} {c d : Bool} (h1 : a = b) (h2 : c = d) : Ending.returned (.tuple #[.string ⟨a.toArray⟩, .bool c]) = .returned (.tuple #[.string ⟨b.toArray⟩, .bool d]) := by rw [h1, h2]

set_option maxHeartbeats 2000000 in
set_option maxRecDepth 100000 in
theorem textTXT_calls (F : Interp) (zs : List Int) (ao : Option Addr) (cp : Nat) (w : World) (hin : RowIn w ao cp zs) (hF : F.told.answers w.tape) (hlen : zs.length ≤ 1048576) :
    Calls Ybaf.prog 6 #[.slice ao zs.length cp] w fun e w' => e = .returned (.tuple #[.string ⟨(outS zs).toArray⟩, .bool (outOk zs)]) ∧ Below w.heap.size w w' := by
  have HI : Hid (RowIn w ao cp zs) := hin
  have HF : Hid (F.told.answers w.tape) := hF
  clear hin hF
  go_enter Ybaf.func6, Ybaf.ntmps6
  go_wp2_with fail
  go_loopw [0] (fun v wr => ∃ (i cq : Nat) (aq : Option Addr) (acc : List UInt8), i ≤ zs.length ∧ v = .slice aq (zs.length - i) cq ∧ RowIn w aq cq (zs.drop i) ∧ acc.length ≤ 6 * i ∧ Plain.parse zs.length (zs.drop i) acc = Plain.parse zs.length zs [] ∧ St w acc wr)
    (fun v _ => lenOf v)
  case atStart => exact ⟨0, cp, ao, [], Nat.zero_le _, rfl, HI.out, Nat.le_refl _, rfl, Lib.IsBuilderF.of (Lib.fresh_isBuilder 31 5 w), (Below.refl _ _).alloc (Nat.le_refl _) _⟩
  case round =>
    obtain ⟨i, cq, aq, acc, hi, rfl, hrow, hacc, hpar, hst⟩ := hrel
    have HP : Hid (Plain.parse zs.length (zs.drop i) acc = Plain.parse zs.length zs []) := hpar
    have HS : Hid (St w acc wr) := hst
    have HR : Hid (RowIn w aq cq (zs.drop i)) := hrow
    clear hpar hst hrow
    by_cases hlt : i < zs.length
    · obtain ⟨blk, off, rfl, hcell⟩ := HR.out.cells (by intro h; have := congrArg List.length h; simp at this; omega)
      have hcq : zs.length - i ≤ cq := by have := HR.out.le; simpa using this
      have hcm := HR.out.cap
      have HCM : Hid (cq ≤ maxLen) := hcm
      unfold maxLen at hcm
      have hcr : ∀ j, j < zs.length - i → w.cell? ⟨blk, off + j, none⟩ = some (.int .u8 (zs.getD (i + j) 0)) := by
        intro j hj
        have := hcell j (by simpa using hj)
        rw [this]
        simp [List.getD, List.getElem?_drop]
      have hblk : blk < w.heap.size := World.block_lt_of_cell? _ _ (hcr 0 (by omega))
      obtain ⟨n, hn, hn256⟩ : ∃ n : Nat, zs.getD i 0 = (n : Int) ∧ n < 256 := by
        have hz := HI.out.wf (zs.getD i 0) (by simp [List.getD, hlt])
        exact ⟨(zs.getD i 0).toNat, by omega, by omega⟩
      have hc0 : wr.cell? ⟨blk, off, none⟩ = some (.int .u8 (n : Int)) := by
        rw [HS.out.2.cell (p := ⟨blk, off, none⟩) hblk]
        have := hcr 0 (by omega)
        rw [Nat.add_zero, Nat.add_zero, hn] at this
        exact this
      have HC : Hid (∀ j, j < zs.length - i → w.cell? ⟨blk, off + j, none⟩ = some (.int .u8 (zs.getD (i + j) 0))) := hcr
      have HN : Hid (zs.getD i 0 = (n : Int)) := hn
      obtain ⟨m, hm⟩ : ∃ m, zs.length - i = m := ⟨_, rfl⟩
      rw [hm]
      rw [hm] at hcq
      have HM : Hid (zs.length = i + m) := hid (by omega)
      have hm0 : 0 < m := by omega
      have hm1 : m ≤ 1048576 := by omega
      have hi1 : i ≤ 1048576 := by omega
      clear hcell hcr hn hm
      by_cases hfit : 1 + n ≤ m
      · have hDl : ((zs.drop (i + 1)).take n).length = n := by have := HM.out; simp; omega
        have HDL : Hid (((zs.drop (i + 1)).take n).length = n) := hDl
        have HD : Hid (∀ k, k < n → ∃ c : Int, ((zs.drop (i + 1)).take n).getD k 0 = c ∧ 0 ≤ c ∧ c < 256 ∧ w.cell? ⟨blk, off + 1 + k, none⟩ = some (.int .u8 c)) := by
          intro k hk
          have hM := HM.out
          have hz := HI.out.wf (zs.getD (i + 1 + k) 0) (by simp [List.getD, (by omega : i + 1 + k < zs.length)])
          refine ⟨zs.getD (i + 1 + k) 0, ?_, hz.1, hz.2, ?_⟩
          · simp [List.getD, hk, List.getElem?_drop]
          · have := HC.out (1 + k) (by omega)
            rw [show off + 1 + k = off + (1 + k) by omega, this, show i + 1 + k = i + (1 + k) by omega]
        have hflat : ∀ k, ((((zs.drop (i + 1)).take n).take k).flatMap esc).length ≤ 4 * n := by
          intro k
          have h := flat_len (((zs.drop (i + 1)).take n).take k) (fun c hc => HI.out.wf c (List.mem_of_mem_drop (List.mem_of_mem_take (List.mem_of_mem_take hc))))
          have h2 : (((zs.drop (i + 1)).take n).take k).length ≤ n := by have h3 := List.length_take_le' k ((zs.drop (i + 1)).take n); omega
          omega
        have HFL : Hid (∀ k, ((((zs.drop (i + 1)).take n).take k).flatMap esc).length ≤ 4 * n) := hflat
        have HT : Hid (((zs.drop (i + 1)).take n).take n = (zs.drop (i + 1)).take n) := by
          show _ = _
          rw [List.take_take, Nat.min_self]
        have HSTEP : Hid (Plain.parse zs.length (zs.drop i) acc = Plain.parse zs.length (zs.drop (i + 1 + n)) (acc ++ sep acc ++ Plain.quoted ((zs.drop (i + 1)).take n))) := hid (parse_step zs i hlt acc n (by rw [HN.out]; simp) (by have := HM.out; omega))
        clear hDl hflat
        generalize (zs.drop (i + 1)).take n = D at *
        by_cases hq1 : cq = 1
        · subst hq1
          obtain rfl : m = 1 := by omega
          obtain rfl : n = 0 := by omega
          by_cases hacc0 : acc.length = 0
          · go_wp2_with fail
            refine (st_len w acc wr HS.out).mono ?_
            rintro e w3 ⟨rfl, hw3⟩
            subst hw3
            go_wp2_with fail
            have hse : sep acc = [] := by simp [sep, hacc0]
            have HS1 : Hid (St w (acc ++ sep acc) wr) := hid (by rw [hse, List.append_nil]; exact HS.out)
            clear HS hc0
            generalize wr = wx at *
            have hsl : (sep acc).length ≤ 1 := by unfold sep; split <;> simp
            clear hse
            generalize sep acc = sp at *
            refine (st_write w (acc ++ sp) 34 wx HS1.out (by omega) (by omega) (by simp; omega)).mono ?_
            rintro e wy ⟨rfl, hy⟩
            have HS2 : Hid (St w (acc ++ sp ++ [34]) wy) := hy
            clear HS1 hy
            go_wp2_with fail
            go_loopw [29] (fun v wi => ∃ k : Nat, k ≤ 0 ∧ v = .int .i64 k ∧ St w (acc ++ sp ++ [34] ++ (D.take k).flatMap esc) wi) (fun v _ => 0)
            case atStart => exact ⟨0, Nat.zero_le _, rfl, by simpa using HS2.out⟩
            case round =>
              obtain ⟨k, hk, rfl, hst⟩ := hrel
              obtain rfl : k = 0 := by omega
              have HQ : Hid (St w (acc ++ sp ++ [34] ++ D.flatMap esc) wr) := hid (by have h := hst; rw [HT.out] at h; exact h)
              have hfl2 := HFL.out 0
              rw [HT.out] at hfl2
              clear hst
              go_wp2_with fail
              refine (st_write w _ 34 wr HQ.out (by omega) (by omega) (by simp only [List.length_append, List.length_cons, List.length_nil]; omega)).mono ?_
              rintro e w5 ⟨rfl, h5⟩
              have HK5 : Hid (St w (acc ++ sp ++ Plain.quoted D) w5) := hid (by simpa [Plain.quoted, ofI] using h5)
              clear h5 HQ
              go_wp2_with fail
              have hM := HM.out
              refine ⟨⟨i + 1, 0, _, acc ++ sp ++ Plain.quoted D, by omega, by rw [show zs.length - (i + 1) = 0 by omega], ?_, ?_, ?_, HK5.out⟩, ?_⟩
              · refine ⟨by simp; omega, by omega, fun z hz => HI.out.wf z (List.mem_of_mem_drop hz), fun hne => ?_⟩
                have hpos : 0 < (zs.drop (i + 1)).length := List.length_pos_iff.2 hne
                simp at hpos
                omega
              · simp only [List.length_append, Plain.quoted, List.length_cons, List.length_nil]; omega
              · rw [← HP.out]; exact HSTEP.out.symm
              · simp only [lenOf]; omega
          · go_wp2_with fail
            refine (st_len w acc wr HS.out).mono ?_
            rintro e w3 ⟨rfl, hw3⟩
            subst hw3
            go_wp2_with fail
            have hse : sep acc = [32] := by simp [sep, hacc0]
            refine (st_write w acc 32 wr HS.out (by omega) (by omega) (by omega)).mono ?_
            rintro e wx ⟨rfl, hx⟩
            have HS1 : Hid (St w (acc ++ sep acc) wx) := hid (by rw [hse]; exact hx)
            clear HS hc0 hx
            go_wp2_with fail
            have hsl : (sep acc).length ≤ 1 := by unfold sep; split <;> simp
            clear hse
            generalize sep acc = sp at *
            refine (st_write w (acc ++ sp) 34 wx HS1.out (by omega) (by omega) (by simp; omega)).mono ?_
            rintro e wy ⟨rfl, hy⟩
            have HS2 : Hid (St w (acc ++ sp ++ [34]) wy) := hy
            clear HS1 hy
            go_wp2_with fail
            go_loopw [29] (fun v wi => ∃ k : Nat, k ≤ 0 ∧ v = .int .i64 k ∧ St w (acc ++ sp ++ [34] ++ (D.take k).flatMap esc) wi) (fun v _ => 0)
            case atStart => exact ⟨0, Nat.zero_le _, rfl, by simpa using HS2.out⟩
            case round =>
              obtain ⟨k, hk, rfl, hst⟩ := hrel
              obtain rfl : k = 0 := by omega
              have HQ : Hid (St w (acc ++ sp ++ [34] ++ D.flatMap esc) wr) := hid (by have h := hst; rw [HT.out] at h; exact h)
              have hfl2 := HFL.out 0
              rw [HT.out] at hfl2
              clear hst
              go_wp2_with fail
              refine (st_write w _ 34 wr HQ.out (by omega) (by omega) (by simp only [List.length_append, List.length_cons, List.length_nil]; omega)).mono ?_
              rintro e w5 ⟨rfl, h5⟩
              have HK5 : Hid (St w (acc ++ sp ++ Plain.quoted D) w5) := hid (by simpa [Plain.quoted, ofI] using h5)
              clear h5 HQ
              go_wp2_with fail
              have hM := HM.out
              refine ⟨⟨i + 1, 0, _, acc ++ sp ++ Plain.quoted D, by omega, by rw [show zs.length - (i + 1) = 0 by omega], ?_, ?_, ?_, HK5.out⟩, ?_⟩
              · refine ⟨by simp; omega, by omega, fun z hz => HI.out.wf z (List.mem_of_mem_drop hz), fun hne => ?_⟩
                have hpos : 0 < (zs.drop (i + 1)).length := List.length_pos_iff.2 hne
                simp at hpos
                omega
              · simp only [List.length_append, Plain.quoted, List.length_cons, List.length_nil]; omega
              · rw [← HP.out]; exact HSTEP.out.symm
              · simp only [lenOf]; omega
        · by_cases hacc0 : acc.length = 0
          · go_wp2_with fail
            refine (st_len w acc wr HS.out).mono ?_
            rintro e w3 ⟨rfl, hw3⟩
            subst hw3
            go_wp2_with fail
            have hse : sep acc = [] := by simp [sep, hacc0]
            have HS1 : Hid (St w (acc ++ sep acc) wr) := hid (by rw [hse, List.append_nil]; exact HS.out)
            clear HS hc0
            generalize wr = wx at *
            have hsl : (sep acc).length ≤ 1 := by unfold sep; split <;> simp
            clear hse
            generalize sep acc = sp at *
            refine (st_write w (acc ++ sp) 34 wx HS1.out (by omega) (by omega) (by simp; omega)).mono ?_
            rintro e wy ⟨rfl, hy⟩
            have HS2 : Hid (St w (acc ++ sp ++ [34]) wy) := hy
            clear HS1 hy
            go_wp2_with fail
            rw [show 1 + n - 1 = n by omega]
            go_loopw [29] (fun v wi => ∃ k : Nat, k ≤ n ∧ v = .int .i64 k ∧ St w (acc ++ sp ++ [34] ++ (D.take k).flatMap esc) wi) (fun v _ => n - (intOf v).toNat)
            case atStart => exact ⟨0, Nat.zero_le _, rfl, by simpa using HS2.out⟩
            case round =>
              obtain ⟨k, hk, rfl, hst⟩ := hrel
              have HK : Hid (St w (acc ++ sp ++ [34] ++ (D.take k).flatMap esc) wr) := hst
              have hfl := HFL.out k
              by_cases hkn : k < n
              · obtain ⟨c, hc, hc0, hc1, hcc⟩ := HD.out k hkn
                have hcell : wr.cell? ⟨blk, off + 1 + k, none⟩ = some (.int .u8 c) := (hst.2.cell (p := ⟨blk, off + 1 + k, none⟩) hblk).trans hcc
                have HE : Hid ((D.take (k + 1)).flatMap esc = (D.take k).flatMap esc ++ esc c) := hid (take_flat D k (by rw [HDL.out]; exact hkn) c hc)
                clear hcc hc hst
                cases q1 : (c == 34)
                · cases q2 : (c == 92)
                  · by_cases q3 : c < 32
                    · have HEC : Hid (esc c = esc3 c) := hid (by unfold esc; rw [if_neg (by simp at q1 q2; omega), if_pos (Or.inl q3)])
                      have hwc : (Lit.int .u8 c).wf = true := WalkArith.wf_u8 (by omega)
                      have HWC := hid hwc
                      clear hwc
                      go_wp2_with fail
                      refine (st_fprintf F w _ c wr HK.out HF.out hc0 hc1 HWC.out (by simp only [List.length_append, List.length_cons, List.length_nil]; omega)).mono ?_
                      rintro e w4 ⟨rfl, h4⟩
                      have HK5 : Hid (St w (acc ++ sp ++ [34] ++ ((D.take k).flatMap esc ++ esc3 c)) w4) := hid (by simpa using h4)
                      clear h4 HK
                      go_wp2_with fail
                      go_roundw
                      case rel => exact ⟨k + 1, by omega, by go_num, by rw [HE.out, HEC.out]; exact HK5.out⟩
                      case measure => simp [intOf]; omega
                    · by_cases q4 : 126 < c
                      · have HEC : Hid (esc c = esc3 c) := hid (by unfold esc; rw [if_neg (by simp at q1 q2; omega), if_pos (Or.inr q4)])
                        have hwc : (Lit.int .u8 c).wf = true := WalkArith.wf_u8 (by omega)
                        have HWC := hid hwc
                        clear hwc
                        go_wp2_with fail
                        refine (st_fprintf F w _ c wr HK.out HF.out hc0 hc1 HWC.out (by simp only [List.length_append, List.length_cons, List.length_nil]; omega)).mono ?_
                        rintro e w4 ⟨rfl, h4⟩
                        have HK5 : Hid (St w (acc ++ sp ++ [34] ++ ((D.take k).flatMap esc ++ esc3 c)) w4) := hid (by simpa using h4)
                        clear h4 HK
                        go_wp2_with fail
                        go_roundw
                        case rel => exact ⟨k + 1, by omega, by go_num, by rw [HE.out, HEC.out]; exact HK5.out⟩
                        case measure => simp [intOf]; omega
                      · have HEC : Hid (esc c = [ofI c]) := hid (by unfold esc; rw [if_neg (by simp at q1 q2; omega), if_neg (by omega)])
                        go_wp2_with fail
                        refine (st_write w _ c wr HK.out hc0 hc1 (by simp only [List.length_append, List.length_cons, List.length_nil]; omega)).mono ?_
                        rintro e w4 ⟨rfl, h4⟩
                        have HK5 : Hid (St w (acc ++ sp ++ [34] ++ ((D.take k).flatMap esc ++ [ofI c])) w4) := hid (by simpa using h4)
                        clear h4 HK
                        go_wp2_with fail
                        go_roundw
                        case rel => exact ⟨k + 1, by omega, by go_num, by rw [HE.out, HEC.out]; exact HK5.out⟩
                        case measure => simp [intOf]; omega
                  · have HEC : Hid (esc c = [92, ofI c]) := hid (by unfold esc; rw [if_pos (Or.inr (by simpa using q2))])
                    go_wp2_with fail
                    refine (st_write w _ 92 wr HK.out (by omega) (by omega) (by simp only [List.length_append, List.length_cons, List.length_nil]; omega)).mono ?_
                    rintro e w4 ⟨rfl, h4⟩
                    have HK4 := hid h4
                    clear h4 HK
                    go_wp2_with fail
                    refine (st_write w _ c w4 HK4.out hc0 hc1 (by simp only [List.length_append, List.length_cons, List.length_nil]; omega)).mono ?_
                    rintro e w5 ⟨rfl, h5⟩
                    have HK5 : Hid (St w (acc ++ sp ++ [34] ++ ((D.take k).flatMap esc ++ [92, ofI c])) w5) := hid (by simpa [ofI] using h5)
                    clear h5 HK4
                    go_wp2_with fail
                    go_roundw
                    case rel => exact ⟨k + 1, by omega, by go_num, by rw [HE.out, HEC.out]; exact HK5.out⟩
                    case measure => simp [intOf]; omega
                · have HEC : Hid (esc c = [92, ofI c]) := hid (by unfold esc; rw [if_pos (Or.inl (by simpa using q1))])
                  go_wp2_with fail
                  refine (st_write w _ 92 wr HK.out (by omega) (by omega) (by simp only [List.length_append, List.length_cons, List.length_nil]; omega)).mono ?_
                  rintro e w4 ⟨rfl, h4⟩
                  have HK4 := hid h4
                  clear h4 HK
                  go_wp2_with fail
                  refine (st_write w _ c w4 HK4.out hc0 hc1 (by simp only [List.length_append, List.length_cons, List.length_nil]; omega)).mono ?_
                  rintro e w5 ⟨rfl, h5⟩
                  have HK5 : Hid (St w (acc ++ sp ++ [34] ++ ((D.take k).flatMap esc ++ [92, ofI c])) w5) := hid (by simpa [ofI] using h5)
                  clear h5 HK4
                  go_wp2_with fail
                  go_roundw
                  case rel => exact ⟨k + 1, by omega, by go_num, by rw [HE.out, HEC.out]; exact HK5.out⟩
                  case measure => simp [intOf]; omega
              · have hkn2 : k = n := by omega
                subst hkn2
                have HQ : Hid (St w (acc ++ sp ++ [34] ++ D.flatMap esc) wr) := hid (by have h := HK.out; rw [HT.out] at h; exact h)
                have hfl2 := HFL.out k
                rw [HT.out] at hfl2
                clear HK hst hfl
                go_wp2_with fail
                refine (st_write w _ 34 wr HQ.out (by omega) (by omega) (by simp only [List.length_append, List.length_cons, List.length_nil]; omega)).mono ?_
                rintro e w5 ⟨rfl, h5⟩
                have HK5 : Hid (St w (acc ++ sp ++ Plain.quoted D) w5) := hid (by simpa [Plain.quoted, ofI] using h5)
                clear h5 HQ
                go_wp2_with fail
                have hM := HM.out
                refine ⟨⟨i + 1 + k, cq - (1 + k), _, acc ++ sp ++ Plain.quoted D, by omega, by rw [show m - (1 + k) = zs.length - (i + 1 + k) by omega], ?_, ?_, ?_, HK5.out⟩, ?_⟩
                · refine ⟨by simp; omega, by have := HCM.out; omega, fun z hz => HI.out.wf z (List.mem_of_mem_drop hz), fun hne => ?_⟩
                  have hpos : 0 < (zs.drop (i + 1 + k)).length := List.length_pos_iff.2 hne
                  simp at hpos
                  rw [if_neg (by omega)]
                  refine ⟨blk, off + (1 + k), rfl, fun j hj => ?_⟩
                  simp at hj
                  have := HC.out (1 + k + j) (by omega)
                  rw [show off + (1 + k) + j = off + (1 + k + j) by omega, this]
                  simp [List.getD, show i + (1 + k + j) = i + 1 + k + j by omega]
                · simp only [List.length_append, Plain.quoted, List.length_cons, List.length_nil]; omega
                · rw [← HSTEP.out]; exact HP.out
                · simp only [lenOf]; omega
          · go_wp2_with fail
            refine (st_len w acc wr HS.out).mono ?_
            rintro e w3 ⟨rfl, hw3⟩
            subst hw3
            go_wp2_with fail
            have hse : sep acc = [32] := by simp [sep, hacc0]
            refine (st_write w acc 32 wr HS.out (by omega) (by omega) (by omega)).mono ?_
            rintro e wx ⟨rfl, hx⟩
            have HS1 : Hid (St w (acc ++ sep acc) wx) := hid (by rw [hse]; exact hx)
            clear HS hc0 hx
            go_wp2_with fail
            have hsl : (sep acc).length ≤ 1 := by unfold sep; split <;> simp
            clear hse
            generalize sep acc = sp at *
            refine (st_write w (acc ++ sp) 34 wx HS1.out (by omega) (by omega) (by simp; omega)).mono ?_
            rintro e wy ⟨rfl, hy⟩
            have HS2 : Hid (St w (acc ++ sp ++ [34]) wy) := hy
            clear HS1 hy
            go_wp2_with fail
            rw [show 1 + n - 1 = n by omega]
            go_loopw [29] (fun v wi => ∃ k : Nat, k ≤ n ∧ v = .int .i64 k ∧ St w (acc ++ sp ++ [34] ++ (D.take k).flatMap esc) wi) (fun v _ => n - (intOf v).toNat)
            case atStart => exact ⟨0, Nat.zero_le _, rfl, by simpa using HS2.out⟩
            case round =>
              obtain ⟨k, hk, rfl, hst⟩ := hrel
              have HK : Hid (St w (acc ++ sp ++ [34] ++ (D.take k).flatMap esc) wr) := hst
              have hfl := HFL.out k
              by_cases hkn : k < n
              · obtain ⟨c, hc, hc0, hc1, hcc⟩ := HD.out k hkn
                have hcell : wr.cell? ⟨blk, off + 1 + k, none⟩ = some (.int .u8 c) := (hst.2.cell (p := ⟨blk, off + 1 + k, none⟩) hblk).trans hcc
                have HE : Hid ((D.take (k + 1)).flatMap esc = (D.take k).flatMap esc ++ esc c) := hid (take_flat D k (by rw [HDL.out]; exact hkn) c hc)
                clear hcc hc hst
                cases q1 : (c == 34)
                · cases q2 : (c == 92)
                  · by_cases q3 : c < 32
                    · have HEC : Hid (esc c = esc3 c) := hid (by unfold esc; rw [if_neg (by simp at q1 q2; omega), if_pos (Or.inl q3)])
                      have hwc : (Lit.int .u8 c).wf = true := WalkArith.wf_u8 (by omega)
                      have HWC := hid hwc
                      clear hwc
                      go_wp2_with fail
                      refine (st_fprintf F w _ c wr HK.out HF.out hc0 hc1 HWC.out (by simp only [List.length_append, List.length_cons, List.length_nil]; omega)).mono ?_
                      rintro e w4 ⟨rfl, h4⟩
                      have HK5 : Hid (St w (acc ++ sp ++ [34] ++ ((D.take k).flatMap esc ++ esc3 c)) w4) := hid (by simpa using h4)
                      clear h4 HK
                      go_wp2_with fail
                      go_roundw
                      case rel => exact ⟨k + 1, by omega, by go_num, by rw [HE.out, HEC.out]; exact HK5.out⟩
                      case measure => simp [intOf]; omega
                    · by_cases q4 : 126 < c
                      · have HEC : Hid (esc c = esc3 c) := hid (by unfold esc; rw [if_neg (by simp at q1 q2; omega), if_pos (Or.inr q4)])
                        have hwc : (Lit.int .u8 c).wf = true := WalkArith.wf_u8 (by omega)
                        have HWC := hid hwc
                        clear hwc
                        go_wp2_with fail
                        refine (st_fprintf F w _ c wr HK.out HF.out hc0 hc1 HWC.out (by simp only [List.length_append, List.length_cons, List.length_nil]; omega)).mono ?_
                        rintro e w4 ⟨rfl, h4⟩
                        have HK5 : Hid (St w (acc ++ sp ++ [34] ++ ((D.take k).flatMap esc ++ esc3 c)) w4) := hid (by simpa using h4)
                        clear h4 HK
                        go_wp2_with fail
                        go_roundw
                        case rel => exact ⟨k + 1, by omega, by go_num, by rw [HE.out, HEC.out]; exact HK5.out⟩
                        case measure => simp [intOf]; omega
                      · have HEC : Hid (esc c = [ofI c]) := hid (by unfold esc; rw [if_neg (by simp at q1 q2; omega), if_neg (by omega)])
                        go_wp2_with fail
                        refine (st_write w _ c wr HK.out hc0 hc1 (by simp only [List.length_append, List.length_cons, List.length_nil]; omega)).mono ?_
                        rintro e w4 ⟨rfl, h4⟩
                        have HK5 : Hid (St w (acc ++ sp ++ [34] ++ ((D.take k).flatMap esc ++ [ofI c])) w4) := hid (by simpa using h4)
                        clear h4 HK
                        go_wp2_with fail
                        go_roundw
                        case rel => exact ⟨k + 1, by omega, by go_num, by rw [HE.out, HEC.out]; exact HK5.out⟩
                        case measure => simp [intOf]; omega
                  · have HEC : Hid (esc c = [92, ofI c]) := hid (by unfold esc; rw [if_pos (Or.inr (by simpa using q2))])
                    go_wp2_with fail
                    refine (st_write w _ 92 wr HK.out (by omega) (by omega) (by simp only [List.length_append, List.length_cons, List.length_nil]; omega)).mono ?_
                    rintro e w4 ⟨rfl, h4⟩
                    have HK4 := hid h4
                    clear h4 HK
                    go_wp2_with fail
                    refine (st_write w _ c w4 HK4.out hc0 hc1 (by simp only [List.length_append, List.length_cons, List.length_nil]; omega)).mono ?_
                    rintro e w5 ⟨rfl, h5⟩
                    have HK5 : Hid (St w (acc ++ sp ++ [34] ++ ((D.take k).flatMap esc ++ [92, ofI c])) w5) := hid (by simpa [ofI] using h5)
                    clear h5 HK4
                    go_wp2_with fail
                    go_roundw
                    case rel => exact ⟨k + 1, by omega, by go_num, by rw [HE.out, HEC.out]; exact HK5.out⟩
                    case measure => simp [intOf]; omega
                · have HEC : Hid (esc c = [92, ofI c]) := hid (by unfold esc; rw [if_pos (Or.inl (by simpa using q1))])
                  go_wp2_with fail
                  refine (st_write w _ 92 wr HK.out (by omega) (by omega) (by simp only [List.length_append, List.length_cons, List.length_nil]; omega)).mono ?_
                  rintro e w4 ⟨rfl, h4⟩
                  have HK4 := hid h4
                  clear h4 HK
                  go_wp2_with fail
                  refine (st_write w _ c w4 HK4.out hc0 hc1 (by simp only [List.length_append, List.length_cons, List.length_nil]; omega)).mono ?_
                  rintro e w5 ⟨rfl, h5⟩
                  have HK5 : Hid (St w (acc ++ sp ++ [34] ++ ((D.take k).flatMap esc ++ [92, ofI c])) w5) := hid (by simpa [ofI] using h5)
                  clear h5 HK4
                  go_wp2_with fail
                  go_roundw
                  case rel => exact ⟨k + 1, by omega, by go_num, by rw [HE.out, HEC.out]; exact HK5.out⟩
                  case measure => simp [intOf]; omega
              · have hkn2 : k = n := by omega
                subst hkn2
                have HQ : Hid (St w (acc ++ sp ++ [34] ++ D.flatMap esc) wr) := hid (by have h := HK.out; rw [HT.out] at h; exact h)
                have hfl2 := HFL.out k
                rw [HT.out] at hfl2
                clear HK hst hfl
                go_wp2_with fail
                refine (st_write w _ 34 wr HQ.out (by omega) (by omega) (by simp only [List.length_append, List.length_cons, List.length_nil]; omega)).mono ?_
                rintro e w5 ⟨rfl, h5⟩
                have HK5 : Hid (St w (acc ++ sp ++ Plain.quoted D) w5) := hid (by simpa [Plain.quoted, ofI] using h5)
                clear h5 HQ
                go_wp2_with fail
                have hM := HM.out
                refine ⟨⟨i + 1 + k, cq - (1 + k), _, acc ++ sp ++ Plain.quoted D, by omega, by rw [show m - (1 + k) = zs.length - (i + 1 + k) by omega], ?_, ?_, ?_, HK5.out⟩, ?_⟩
                · refine ⟨by simp; omega, by have := HCM.out; omega, fun z hz => HI.out.wf z (List.mem_of_mem_drop hz), fun hne => ?_⟩
                  have hpos : 0 < (zs.drop (i + 1 + k)).length := List.length_pos_iff.2 hne
                  simp at hpos
                  rw [if_neg (by omega)]
                  refine ⟨blk, off + (1 + k), rfl, fun j hj => ?_⟩
                  simp at hj
                  have := HC.out (1 + k + j) (by omega)
                  rw [show off + (1 + k) + j = off + (1 + k + j) by omega, this]
                  simp [List.getD, show i + (1 + k + j) = i + 1 + k + j by omega]
                · simp only [List.length_append, Plain.quoted, List.length_cons, List.length_nil]; omega
                · rw [← HSTEP.out]; exact HP.out
                · simp only [lenOf]; omega
      · have hout : Plain.parse zs.length zs [] = none := by
          rw [← HP.out]
          exact parse_stop zs i hlt acc n (by rw [HN.out]; simp) (by have := HM.out; omega)
        have HO : Hid (Plain.parse zs.length zs [] = none) := hout
        clear hout
        go_wp2
        go_ret2
        exact ⟨ret_tx (a := []) (by simp [outS, HO.out]) (by simp [outOk, outS, HO.out]), HS.out.2⟩
    · have hie : i = zs.length := by omega
      subst hie
      have hz0 : zs.length - zs.length = 0 := by omega
      rw [hz0]
      clear hz0
      have hout : outS zs = acc := by
        unfold outS
        rw [← HP.out, List.drop_length, parse_nil]
        rfl
      have HO : Hid (outS zs = acc) := hout
      clear hout
      go_wp2_with fail
      refine (st_string w acc wr HS.out).mono ?_
      rintro e w2 ⟨rfl, h2⟩
      have HB2 : Hid (St w acc w2) := h2
      clear h2
      go_wp2_with fail
      refine (st_len w acc w2 HB2.out).mono ?_
      rintro e w3 ⟨rfl, hw3⟩
      subst hw3
      go_wp2
      go_ret2
      exact ⟨ret_tx HO.out.symm (by rw [outOk, HO.out]), HB2.out.2⟩
end Go.Proofs.YbulkktkFmt
