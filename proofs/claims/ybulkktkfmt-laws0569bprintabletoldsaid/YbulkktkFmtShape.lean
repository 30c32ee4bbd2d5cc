import Derived.Test.YbulkktkFmtText
namespace Go.Proofs.YbulkktkFmt
open Go.RowKit Go.Kit Go.Extern.Stop Go.Stop Go.Extern
open Plain

/-- Quoted from end to end. -/
def Good (acc : List UInt8) : Prop := ∃ mid, acc = 34 :: (mid ++ [34])
/-- What the law's own scan knows at index i. -/
def Scan (zs : List Int) (i : Nat) : Prop :=
  (i ≤ zs.length → ∃ acc, Plain.parse zs.length zs [] = Plain.parse zs.length (zs.drop i) acc ∧ (i = 0 ∧ acc = [] ∨ 0 < i ∧ Good acc) ∧ acc.length ≤ 6 * i) ∧ (zs.length < i → Plain.parse zs.length zs [] = none)
theorem scan_zero (zs : List Int) : Scan zs 0 := ⟨fun _ => ⟨[], rfl, Or.inl ⟨rfl, rfl⟩, by simp⟩, fun h => absurd h (by omega)⟩
theorem good_app {acc : List UInt8} (D : List Int) (h : acc = [] ∨ Good acc) : Good (acc ++ sep acc ++ Plain.quoted D) := by
  rcases h with rfl | ⟨mid, rfl⟩
  · exact ⟨D.flatMap esc, by simp [sep, Plain.quoted]⟩
  · exact ⟨mid ++ [34] ++ [32] ++ [34] ++ D.flatMap esc, by simp [sep, Plain.quoted]⟩
theorem scan_next (zs : List Int) (i n : Nat) (hi : i < zs.length) (hn : zs.getD i 0 = (n : Int)) (hwf : ∀ z ∈ zs, 0 ≤ z ∧ z < 256) (h : Scan zs i) : Scan zs (i + 1 + n) := by
  obtain ⟨acc, hp, ha, hal⟩ := h.1 (by omega)
  refine ⟨fun hle => ?_, fun hgt => ?_⟩
  · refine ⟨acc ++ sep acc ++ Plain.quoted ((zs.drop (i + 1)).take n), ?_, Or.inr ⟨by omega, good_app _ ?_⟩, ?_⟩
    · rw [hp, parse_step zs i hi acc n (by rw [hn]; simp) hle]
    · rcases ha with ⟨_, h⟩ | ⟨_, h⟩
      · exact Or.inl h
      · exact Or.inr h
    · have h1 := flat_len ((zs.drop (i + 1)).take n) (fun c hc => hwf c (List.mem_of_mem_drop (List.mem_of_mem_take hc)))
      have h2 := List.length_take_le n (zs.drop (i + 1))
      have h3 : (sep acc).length ≤ 1 := by unfold sep; split <;> simp
      simp only [List.length_append, Plain.quoted, List.length_cons, List.length_nil]
      omega
  · rw [hp, parse_stop zs i hi acc n (by rw [hn]; simp) (by omega)]

theorem ret_bool {a b : Bool} (h : a = b) : Ending.returned (.bool a) = .returned (.bool b) := by rw [h]
theorem last34 (mid : List UInt8) (h : mid.length + 1 < (⟨(34 :: (mid ++ [34])).toArray⟩ : ByteArray).size) : (⟨(34 :: (mid ++ [34])).toArray⟩ : ByteArray)[mid.length + 1]'h = 34 := by
  show (34 :: (mid ++ [34])).toArray[mid.length + 1]'h = 34
  simp

set_option maxHeartbeats 1000000 in
set_option maxRecDepth 100000 in
theorem shape_long (zs : List Int) (ao : Option Addr) (cp : Nat) (w : World) (hlen : 4096 < zs.length) (hmax : zs.length ≤ 9223372036854775807) :
    Calls Ybaf.prog 4 #[.slice ao zs.length cp] w fun e w' => e = .returned (.bool true) ∧ Below w.heap.size w w' := by
  go_enter Ybaf.func4, Ybaf.ntmps4
  go_wp2
  go_ret
  exact ⟨rfl, Below.refl _ _⟩

set_option maxHeartbeats 400000 in
set_option maxRecDepth 100000 in
theorem shape_nil (F : Interp) (ao : Option Addr) (cp : Nat) (w : World) (hin : RowIn w ao cp []) (hF : F.told.answers w.tape) :
    Calls Ybaf.prog 4 #[.slice ao 0 cp] w fun e w' => e = .returned (.bool true) ∧ Below w.heap.size w w' := by
  have HT : Calls Ybaf.prog 6 #[.slice ao 0 cp] w fun e w' => e = .returned (.tuple #[.string ⟨#[]⟩, .bool false]) ∧ Below w.heap.size w w' := textTXT_calls F [] ao cp w hin hF (by simp)
  have HTH := hid HT
  clear HT hin hF
  go_enter Ybaf.func4, Ybaf.ntmps4
  go_wp2
  go_loop [3] (fun v => v = .int .i64 0) (fun v => 0)
  case atStart => rfl
  case round =>
    subst hrel
    go_wp2_with fail
    refine HTH.out.mono ?_
    rintro e w2 ⟨rfl, h2⟩
    go_wp2
    go_ret
    exact ⟨rfl, h2⟩

set_option maxHeartbeats 1000000 in
set_option maxRecDepth 100000 in
theorem shape_calls (F : Interp) (zs : List Int) (ao : Option Addr) (cp : Nat) (w : World) (hin : RowIn w ao cp zs) (hF : F.told.answers w.tape) (hlen : zs.length ≤ 4096) (hpos0 : 0 < zs.length) :
    Calls Ybaf.prog 4 #[.slice ao zs.length cp] w fun e w' => e = .returned (.bool true) ∧ Below w.heap.size w w' := by
  have HI : Hid (RowIn w ao cp zs) := hin
  have HF : Hid (F.told.answers w.tape) := hF
  clear hin hF
  go_enter Ybaf.func4, Ybaf.ntmps4
  go_wp2
  go_loop [3] (fun v => ∃ i : Nat, i ≤ zs.length + 255 ∧ v = .int .i64 i ∧ Scan zs i) (fun v => zs.length - (intOf v).toNat)
  case atStart => exact ⟨0, by omega, rfl, scan_zero zs⟩
  case round =>
    obtain ⟨i, hi, rfl, hsc⟩ := hrel
    have HSC : Hid (Scan zs i) := hsc
    clear hsc
    by_cases hlt : i < zs.length
    · obtain ⟨blk, off, rfl, hcell⟩ := HI.out.cells (by intro h; rw [h] at hlt; simp at hlt)
      have hc := hcell i hlt
      obtain ⟨n, hn, hn256⟩ : ∃ n : Nat, zs.getD i 0 = (n : Int) ∧ n < 256 := by
        have hz := HI.out.wf (zs.getD i 0) (by simp [List.getD, hlt])
        exact ⟨(zs.getD i 0).toNat, by omega, by omega⟩
      rw [hn] at hc
      have HS2 : Hid (Scan zs (i + 1 + n)) := scan_next zs i n hlt hn HI.out.wf HSC.out
      clear hcell hn HSC
      go_wp2
      go_round
      case rel => exact ⟨i + 1 + n, by omega, by go_num, HS2.out⟩
      case measure => simp [intOf]; omega
    · rcases (show zs.length < i ∨ i = zs.length from by omega) with hgt | hie
      · have ho : outS zs = [] := by unfold outS; rw [HSC.out.2 hgt]; rfl
        have hk : outOk zs = false := by unfold outOk; rw [ho]; rfl
        have HT := textTXT_calls F zs ao cp w HI.out HF.out (by omega)
        rw [ho, hk] at HT
        have HTH := hid HT
        have hne : ((i : Int) == (zs.length : Int)) = false := by rw [beq_eq_false_iff_ne]; omega
        clear ho hk HT HSC
        go_wp2_with fail
        refine HTH.out.mono ?_
        rintro e w2 ⟨rfl, h2⟩
        go_wp2
        go_ret
        exact ⟨rfl, h2⟩
      · subst hie
        obtain ⟨acc, hp, ha, hal⟩ := HSC.out.1 (Nat.le_refl _)
        rw [List.drop_length, parse_nil] at hp
        have ho : outS zs = acc := by unfold outS; rw [hp]; rfl
        have HT := textTXT_calls F zs ao cp w HI.out HF.out (by omega)
        rcases ha with ⟨h0, rfl⟩ | ⟨hpos, hgood⟩
        · omega
        · obtain ⟨mid, rfl⟩ := hgood
          have hk : outOk zs = true := by unfold outOk; rw [ho]; simp
          have hmid : mid.length ≤ 100000 := by simp at hal; omega
          rw [ho, hk] at HT
          have HTH := hid HT
          clear ho hk HT HSC hp hal
          go_wp2_with fail
          refine HTH.out.mono ?_
          rintro e w2 ⟨rfl, h2⟩
          go_wp2
          go_ret
          exact ⟨ret_bool (by rw [last34]; rfl), h2⟩

/-- LawS0569BShape: true at every slice of octets. -/
theorem shape_any (F : Interp) (zs : List Int) (ao : Option Addr) (cp : Nat) (w : World) (hin : RowIn w ao cp zs) (hF : F.told.answers w.tape) :
    Calls Ybaf.prog 4 #[.slice ao zs.length cp] w fun e w' => e = .returned (.bool true) ∧ Below w.heap.size w w' := by
  by_cases h : 4096 < zs.length
  · exact shape_long zs ao cp w h (by have h1 := hin.le; have h2 := hin.cap; unfold maxLen at h2; omega)
  · by_cases h0 : zs.length = 0
    · obtain rfl := List.length_eq_zero_iff.1 h0
      exact shape_nil F ao cp w hin hF
    · exact shape_calls F zs ao cp w hin hF (by omega) (by omega)
end Go.Proofs.YbulkktkFmt
