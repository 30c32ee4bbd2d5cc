import Derived.Test.YbulklayFmtLow
namespace Go.Proofs.YbulklayFmt
open Go.RowKit Go.Kit Go.Extern.Stop Go.Stop Go.Extern

/-- A number with no bit among the low six, and not nought. -/
structure High (h : Int) (H : Nat) : Prop where
  eq : h = (H : Int)
  lt : H < 18446744073709551616
  low : ∀ k, k < 6 → H.testBit k = false
  mask : H &&& 18446744073709551552 = H
  ne : H ≠ 0
theorem mask_low : ∀ k : Fin 6, (18446744073709551552 : Nat).testBit k.val = false := by decide +kernel
theorem high64 : High 64 64 := ⟨rfl, by decide, fun k hk => by
  have : ∀ k : Fin 6, (64 : Nat).testBit k.val = false := by decide
  exact this ⟨k, hk⟩, by decide +kernel, by decide⟩
theorem highY {y : Int} (h0 : 0 ≤ y) (h1 : y < 18446744073709551616) (hne : (bits BinOp.andNot IntKind.u64 y 63 == 0) = false) : ∃ H, High (bits BinOp.andNot IntKind.u64 y 63) H := by
  obtain ⟨Y, rfl⟩ := Int.eq_ofNat_of_zero_le h0
  have e : bits BinOp.andNot IntKind.u64 (Y : Int) 63 = ((Y &&& 18446744073709551552 : Nat) : Int) := u64_andNot_nat Y 63 (by omega) (by omega)
  refine ⟨Y &&& 18446744073709551552, ⟨e, ?_, fun k hk => ?_, ?_, fun hz => ?_⟩⟩
  · exact Nat.lt_of_le_of_lt Nat.and_le_left (by omega)
  · rw [Nat.testBit_and, mask_low ⟨k, hk⟩, Bool.and_false]
  · rw [Nat.and_assoc, Nat.and_self]
  · rw [e, hz] at hne
    simp at hne

theorem or_nat {v h : Int} {V H : Nat} (hv : v = (V : Int)) (hV : V < 64) (hh : High h H) : bits BinOp.or IntKind.u64 v h = ((V ||| H : Nat) : Int) := by
  rw [hv, hh.eq]
  exact u64_or_nat V H (by omega) hh.lt
theorem pow_wrap {k : Nat} (hk : k < 6) : IntKind.u64.wrap (2 ^ k) = ((2 ^ k : Nat) : Int) := by
  have : ∀ k : Fin 6, IntKind.u64.wrap (2 ^ k.val) = ((2 ^ k.val : Nat) : Int) := by decide +kernel
  exact this ⟨k, hk⟩
theorem tb_nat {R : Nat} (hR : R < 18446744073709551616) {k : Nat} (hk : k < 6) : tb (R : Int) k = R.testBit k := by
  unfold tb
  have hp : 2 ^ k < 18446744073709551616 := Nat.lt_of_lt_of_le (Nat.pow_lt_pow_right (by decide) hk) (by decide)
  rw [pow_wrap hk, u64_and_nat R (2 ^ k) hR hp, nat_bit, Nat.testBit_eq_decide_div_mod_eq]
  have hpos : 2 ^ k ≠ 0 := Nat.pos_iff_ne_zero.1 (Nat.two_pow_pos k)
  rcases (show R / 2 ^ k % 2 = 0 ∨ R / 2 ^ k % 2 = 1 by omega) with h | h
  · rw [h]; simp
  · rw [h, Nat.one_mul]
    have hz : ((2 ^ k : Nat) : Int) ≠ 0 := fun e => hpos (by omega)
    simp only [bne, beq_eq_false_iff_ne.2 hz]
    rfl
theorem or_lt {V H : Nat} (hV : V < 64) (hH : H < 18446744073709551616) : V ||| H < 18446744073709551616 := by
  have : V ||| H < 2 ^ 64 := Nat.or_lt_two_pow (by omega) (by omega)
  omega
theorem pk_congr {a b : Int} : ∀ n, (∀ k, k < n → tb a k = tb b k) → pk a n = pk b n
  | 0, _ => rfl
  | n + 1, h => by
    unfold pk
    rw [pk_congr n (fun k hk => h k (by omega)), h n (by omega)]
theorem pk_high {v h : Int} {V H : Nat} (hv : v = (V : Int)) (hV : V < 64) (hh : High h H) : pk (bits BinOp.or IntKind.u64 v h) 6 = pk v 6 := by
  refine pk_congr 6 fun k hk => ?_
  rw [or_nat hv hV hh, tb_nat (or_lt hV hh.lt) hk, hv, tb_nat (by omega) hk, Nat.testBit_or, hh.low k hk, Bool.or_false]
theorem rs_high {v h : Int} {V H : Nat} (hv : v = (V : Int)) (hV : V < 64) (hh : High h H) : (rs (bits BinOp.or IntKind.u64 v h) != 0) = true := by
  have e : rs (bits BinOp.or IntKind.u64 v h) = (((V ||| H) &&& 18446744073709551552 : Nat) : Int) := by
    rw [or_nat hv hV hh]
    exact u64_andNot_nat (V ||| H) 63 (or_lt hV hh.lt) (by omega)
  rw [e]
  have hne : (V ||| H) &&& 18446744073709551552 ≠ 0 := by
    intro hz
    apply hh.ne
    rw [← hh.mask]
    apply Nat.eq_of_testBit_eq
    intro i
    have := congrArg (fun n => n.testBit i) hz
    simp only [Nat.testBit_and, Nat.testBit_or, Nat.zero_testBit] at this ⊢
    cases h1 : H.testBit i <;> cases h2 : (18446744073709551552 : Nat).testBit i <;> simp_all
  simpa using hne
theorem rs_wf (r : Int) : (Lit.int .u64 (rs r)).wf = true := by
  have h1 : 0 ≤ rs r := bits_lo_u64 _ _ _
  have h2 : rs r ≤ 18446744073709551615 := bits_hi_u64 _ _ _
  generalize rs r = x at h1 h2
  simp only [Lit.wf, Bool.and_eq_true, decide_eq_true_eq]
  exact ⟨h1, h2⟩

theorem allB_high (F : Interp) {v h : Int} {V H : Nat} (hv : v = (V : Int)) (hV : V < 64) (hh : High h H) : allB F (bits BinOp.or IntKind.u64 v h) = pk v 6 ++ [tx F (rs (bits BinOp.or IntKind.u64 v h))] := by
  unfold allB
  rw [rs_high hv hV hh, pk_high hv hV hh]
  rfl
theorem join_high (v : Int) (l : List UInt8) : Lib.join ((pk v 6).map (·.data.toList) ++ [l]) [124] = if pk v 6 = [] then l else (lo v 6).data.toList ++ 124 :: l := by
  by_cases he : pk v 6 = []
  · rw [if_pos he, he]
    simp [Lib.join_one]
  · rw [if_neg he, join_snoc _ _ (by simpa using he), ← (lo_join v 6).1]
theorem len_high (F : Interp) {v h : Int} {V H : Nat} (hv : v = (V : Int)) (hV : V < 64) (hh : High h H) : (Lib.join ((allB F.told (bits BinOp.or IntKind.u64 v h)).map (·.data.toList)) [124]).length ≤ 200 := by
  rw [allB_high F.told hv hV hh, List.map_append, List.map_singleton, join_high, tx_told F _ (rs_wf _)]
  have h1 := said_len (rs (bits BinOp.or IntKind.u64 v h))
  have h2 : (lo v 6).data.toList.length ≤ 114 := lo_size v 6
  split
  · omega
  · simp only [List.length_append, List.length_cons]; omega
theorem prefix_high (F : Interp) {v h : Int} {V H : Nat} (hv : v = (V : Int)) (hV : V < 64) (hh : High h H) (hne : (lo v 6).toList.isEmpty = false) :
    Lib.hasPrefix (got F (bits BinOp.or IntKind.u64 v h)).data.toList (lo v 6 ++ ⟨#[124]⟩).data.toList = true := by
  have hp : pk v 6 ≠ [] := fun e => by
    rw [Lib.toList_data, (lo_join v 6).2.2 e] at hne
    cases hne
  unfold got
  rw [allB_high F hv hV hh, if_neg (by simp), List.map_append, List.map_singleton, join_high, if_neg hp]
  unfold Lib.hasPrefix
  rw [List.isPrefixOf_iff_prefix]
  simp only [ByteArray.data_append, Array.toList_append]
  refine ⟨(tx F (rs (bits BinOp.or IntKind.u64 v h))).data.toList, ?_⟩
  simp

set_option maxHeartbeats 400000 in
/-- From the call of String on. -/
theorem lawHigh_calls (F : Interp) (x y : Int) (b off cap : Nat) (w : World) (hn : Names w b off cap) (hF : F.told.answers w.tape) (h0 : 0 ≤ x) (h1 : x < 256) (h2 : 0 ≤ y) (h3 : y < 18446744073709551616) :
    Calls Ybaf.prog 4 #[.int .u8 x, .int .u64 y] w fun e w' => e = .returned (.bool true) ∧ Below w.heap.size w w' := by
  have hv : x % 64 = (((x % 64).toNat : Nat) : Int) := by omega
  have hV : (x % 64).toNat < 64 := by omega
  have HL := @low_calls (x % 64)
  have HL := hid HL
  have hlz := lo_size (x % 64) 6
  have HP := @Ybaf.strings_HasPrefix
  have HP := hid HP
  have main : ∀ h H, High h H → Hid (Calls Ybaf.prog 5 #[.int .u64 (bits BinOp.or IntKind.u64 (x % 64) h)] w fun e w' => e = .returned (.string (got F.told (bits BinOp.or IntKind.u64 (x % 64) h))) ∧ Below w.heap.size w w') ∧
      Hid ((lo (x % 64) 6).toList.isEmpty = false → Lib.hasPrefix (got F.told (bits BinOp.or IntKind.u64 (x % 64) h)).data.toList (lo (x % 64) 6 ++ ⟨#[124]⟩).data.toList = true) := fun h H hh =>
    ⟨str_calls F.told _ b off cap w hn hF (by have := len_high F hv hV hh; omega), fun hne => prefix_high F.told hv hV hh hne⟩
  clear hv hV hn hF
  cases hz : (bits BinOp.andNot IntKind.u64 y 63 == 0)
  · obtain ⟨H, hh⟩ := highY h2 h3 hz
    obtain ⟨HS, HQ⟩ := main _ H hh
    clear hh main
    go_enter Ybaf.func4, Ybaf.ntmps4
    go_wp2_with fail
    refine HS.out.mono ?_
    rintro e w1 ⟨rfl, hb⟩
    have HB := hid hb
    clear hb
    go_wp2_with fail
    refine (HL.out w1).mono ?_
    rintro e w2 ⟨rfl, hw2⟩
    subst hw2
    cases he : (lo (x % 64) 6).toList.isEmpty
    · have HQ' := hid (HQ.out he)
      go_wp2_with fail
      refine (HP.out _ _ _).mono ?_
      rintro e w3 ⟨rfl, hw3⟩
      subst hw3
      rw [HQ'.out]
      go_wp2
      go_ret
      exact ⟨rfl, HB.out⟩
    · go_wp2
      go_ret
      exact ⟨rfl, HB.out⟩
  · obtain ⟨HS, HQ⟩ := main _ 64 high64
    clear main
    go_enter Ybaf.func4, Ybaf.ntmps4
    go_wp2_with fail
    refine HS.out.mono ?_
    rintro e w1 ⟨rfl, hb⟩
    have HB := hid hb
    clear hb
    go_wp2_with fail
    refine (HL.out w1).mono ?_
    rintro e w2 ⟨rfl, hw2⟩
    subst hw2
    cases he : (lo (x % 64) 6).toList.isEmpty
    · have HQ' := hid (HQ.out he)
      go_wp2_with fail
      refine (HP.out _ _ _).mono ?_
      rintro e w3 ⟨rfl, hw3⟩
      subst hw3
      rw [HQ'.out]
      go_wp2
      go_ret
      exact ⟨rfl, HB.out⟩
    · go_wp2
      go_ret
      exact ⟨rfl, HB.out⟩
end Go.Proofs.YbulklayFmt
