import Derived.Test.YbulklayScriptC
namespace Go.Proofs.Ybulklay
open Go.RowKit
open Go.ChangeMaps (setBlock)

set_option maxHeartbeats 2000000 in
set_option maxRecDepth 100000 in
theorem script_calls (a : Option Addr) (c : Nat) (ss : List Step) (w : World) (hin : Ins w a ss) (hlen : ss.length ≤ 256) :
    Calls Yba.prog 4 #[.slice a ss.length c] w fun e w' => e = .returned (.bool true) ∧ Below w.heap.size w w' := by
  have HIN := hid hin
  clear hin
  have hmm := @run_makeMap Yba.prog
  have hd : decide ((ss.length : Int) > 256) = false := by simp; omega
  go_enter Yba.func4, Yba.ntmps4
  go_wp2
  go_loopg [3] ss.length (fun k v wr => ∃ i : Nat, i ≤ ss.length ∧ v = .int .i64 i ∧ k = ss.length - i ∧ w = wr ∧ ∀ j s, j < i → ss[j]? = some s → s.z.length ≤ 1024)
  case atStart => exact ⟨0, by omega, rfl, rfl, rfl, fun j s h => by omega⟩
  case round =>
    obtain ⟨i, hi, rfl, rfl, rfl, hsm⟩ := hrel
    by_cases hil : i < ss.length
    · obtain ⟨s, hs⟩ : ∃ s, ss[i]? = some s := ⟨_, List.getElem?_eq_getElem hil⟩
      obtain ⟨b, o, rfl, hb, c0, c1, c2⟩ := HIN.out.place i s hs
      unfold Step.val at c2
      have hrow := HIN.out.row s (List.mem_of_getElem? hs)
      have hz := hrow.le
      have hzz := hrow.cap
      have HS := hid hs
      have HSM := hid hsm
      unfold maxLen at hzz
      clear hrow hs hsm
      by_cases hbig : s.z.length ≤ 1024
      · have hd2 : decide ((s.z.length : Int) > 1024) = false := by simp; omega
        go_wp2
        go_roundg (ss.length - (i + 1))
        case rel => 
          refine ⟨i + 1, by omega, by go_num, rfl, rfl, fun j t hj ht => ?_⟩
          by_cases hji : j < i
          · exact HSM.out j t hji ht
          · obtain rfl : j = i := by omega
            rw [HS.out] at ht
            cases ht
            exact hbig
        case measure => omega
      · have hd2 : decide ((s.z.length : Int) > 1024) = true := by simp; omega
        go_wp2
        go_ret
        exact ⟨rfl, Below.refl _ _⟩
    · have HSM := hid hsm
      clear hsm
      go_wp2_with fail
      change Code.wp _ _ _ _ (laid w (bigs w.heap.size))
      have hL := laid_lay w ss (bigs w.heap.size) rfl rfl
      generalize laid w (bigs w.heap.size) = U at *
      have HL := hid hL
      clear hL
      go_loopg [10] 3 (fun k v wr => ∃ q : Nat, q ≤ 3 ∧ v = .int .i64 q ∧ k = 3 - q ∧ Lay w ss (q * 4) wr)
      case atStart => exact ⟨0, by omega, rfl, rfl, HL.out⟩
      case round =>
        obtain ⟨q, hq, rfl, rfl, hlay⟩ := hrel
        have HLY := hid hlay
        clear hlay HL
        by_cases hq3 : q < 3
        · go_wp2
          go_loopg [11] 4 (fun k v wr => ∃ m : Nat, m ≤ 4 ∧ v = .int .i64 m ∧ k = 4 - m ∧ Lay w ss (q * 4 + m) wr)
          case atStart => exact ⟨0, by omega, rfl, rfl, HLY.out⟩
          case round =>
            obtain ⟨m, hm, rfl, rfl, hlay⟩ := hrel
            have HLZ := hid hlay
            clear HLY hlay
            by_cases hm4 : m < 4
            · obtain ⟨⟨v, hc⟩, hf⟩ := HLZ.out.cell hq3 hm4
              go_wp2
              go_roundg (4 - (m + 1))
              case rel => exact ⟨m + 1, by omega, by go_num, rfl, HLZ.out.step hq3 hm4 rfl⟩
              case measure => omega
            · go_wp2
              go_roundg (3 - (q + 1))
              case rel =>
                refine ⟨q + 1, by omega, by go_num, rfl, ?_⟩
                have h4 := HLZ.out
                rw [show q * 4 + m = (q + 1) * 4 by omega] at h4
                exact h4
              case measure => omega
        · have hA : All w.heap.size w ss 0 wr := by
            have h4 := HLY.out
            rw [show q * 4 = 12 by omega] at h4
            exact h4.all
          have HA := hid hA
          clear hA HLY
          go_wp2_with fail
          go_loopg [12] ss.length (fun k v wr => ∃ j : Nat, j ≤ ss.length ∧ v = .int .i64 j ∧ k = ss.length - j ∧ All w.heap.size w ss j wr)
          case atStart => exact ⟨0, by omega, rfl, rfl, HA.out⟩
          case round =>
            obtain ⟨j, hj, rfl, rfl, hall⟩ := hrel
            have HAL := hid hall
            clear hall HA
            by_cases hjl : j < ss.length
            · obtain ⟨s, hs⟩ : ∃ s, ss[j]? = some s := ⟨_, List.getElem?_eq_getElem hjl⟩
              have hmem := List.mem_of_getElem? hs
              obtain ⟨b, o, rfl, hb, c0, c1, c2⟩ := HIN.out.place j s hs
              have pb := HIN.out.pb s hmem
              have nb := HIN.out.nb s hmem
              obtain ⟨rv, wv, rl, es, own, ix, hC, hT, hTi⟩ := HAL.out
              rw [← hC.bel.cell (p := ⟨b, o + j * 3, none⟩) hb] at c0
              rw [← hC.bel.cell (p := ⟨b, o + j * 3 + 1, none⟩) hb] at c1
              rw [← hC.bel.cell (p := ⟨b, o + j * 3 + 2, none⟩) hb] at c2
              unfold Step.val at c2
              have HS := hid hs
              have HC := hid hC
              have HT := hid hT
              have HTI := hid hTi
              have hrow := HIN.out.row s hmem
              have HROW := hid hrow
              have hz := HSM.out j s (by omega) HS.out
              obtain ⟨p3, hp3⟩ : ∃ k : Nat, s.p % 3 = (k : Int) := ⟨(s.p % 3).toNat, by omega⟩
              obtain ⟨m4, hm4⟩ : ∃ k : Nat, s.n % 4 = (k : Int) := ⟨(s.n % 4).toNat, by omega⟩
              have lp3 : p3 < 3 := by omega
              have lm4 : m4 < 4 := by omega
              have HST := hid (script_started HC.out HS.out hp3.symm hm4.symm hrow (fun g hg hn => hrow.lt g hg hn) (by omega) (by omega))
              clear hs hC hT hTi hrow
              go_wp2_with fail
              rw [hp3, hm4]
              refine HST.out.mono ?_
              rintro e w2 ⟨rfl, hwent⟩
              have HWE := hid hwent
              have hT2 : Tab w.heap.size w2 own ix := by
                obtain ⟨_, _, _, _, _, _, _, _, hk⟩ := hwent
                exact HT.out.moved hk
              obtain ⟨x4, e4, d4⟩ := hT2.t4
              obtain ⟨x5, e5, d5⟩ := hT2.t5
              obtain ⟨x6, e6, d6⟩ := hT2.t6
              have v4 : w2.cell? ⟨w.heap.size + 4, p3, none⟩ = some (.bool (own p3).isSome) := by simp [World.cell?, e4, d4 p3 lp3]
              have f4 : w2.frozen? ⟨w.heap.size + 4, p3, none⟩ = false := by simp [World.frozen?, e4]
              have v5 : w2.cell? ⟨w.heap.size + 5, p3, none⟩ = some (.int .u64 ((own p3).elim 0 (·.st))) := by simp [World.cell?, e5, d5 p3 lp3]
              have f5 : w2.frozen? ⟨w.heap.size + 5, p3, none⟩ = false := by simp [World.frozen?, e5]
              have v6 : w2.cell? ⟨w.heap.size + 6, p3 * 4 + m4, none⟩ = some (.int .i64 (ix p3 m4)) := by simp [World.cell?, e6, d6 p3 m4 lp3 lm4]
              have f6 : w2.frozen? ⟨w.heap.size + 6, p3 * 4 + m4, none⟩ = false := by simp [World.frozen?, e6]
              clear hT2 e4 d4 e5 d5 e6 d6 c0 c1 c2 hp3 hm4 hwent
              go_wp2
              go_roundg (ss.length - (j + 1))
              case rel => exact ⟨j + 1, by omega, by go_num, rfl, all_step HT.out HTI.out HS.out lp3 lm4 HWE.out⟩
              case measure => omega
            · obtain rfl : j = ss.length := by omega
              obtain ⟨ra, rcap, hrv⟩ := HAL.out.len
              go_wp2_with fail
              clear hrv
              go_loopg [15] ss.length (fun k v wr => ∃ j : Nat, j ≤ ss.length ∧ v = .int .i64 j ∧ k = ss.length - j ∧ All w.heap.size w ss ss.length wr)
              case atStart => exact ⟨0, by omega, rfl, rfl, HAL.out⟩
              case round =>
                obtain ⟨j, hj, rfl, rfl, hall⟩ := hrel
                have HAM := hid hall
                clear hall HAL
                by_cases hjl : j < ss.length
                · obtain ⟨rg, rcap, wg, wcap, g, cap, s, r1, r2, hs, hrec, r3, r4⟩ := HAM.out.five hjl
                  have hmem := List.mem_of_getElem? hs
                  obtain ⟨b, o, rfl, hb, c0, c1, c2⟩ := HIN.out.place j s hs
                  have pb := HIN.out.pb s hmem
                  have nb := HIN.out.nb s hmem
                  have hrow := HIN.out.row s hmem
                  have hz := HSM.out j s (by omega) hs
                  rw [← HAM.out.bel.cell (p := ⟨b, o + j * 3, none⟩) hb] at c0
                  rw [← HAM.out.bel.cell (p := ⟨b, o + j * 3 + 1, none⟩) hb] at c1
                  rw [← HAM.out.bel.cell (p := ⟨b, o + j * 3 + 2, none⟩) hb] at c2
                  unfold Step.val at c2
                  unfold due at r4
                  have hrw : RowIn wr s.a s.c s.z := hrow.moved fun g hg hn => HAM.out.bel.block _ (hrow.lt g hg hn)
                  have HAR : Hid (∀ n, Calls Yba.prog 9 #[.slice (some ⟨g, 0, none⟩) (10 + s.z.length) cap, .int .u8 (s.p % 3), .int .u64 (s.n % 4), .slice s.a s.z.length s.c] (wr.drewN n) fun e w' => e = .returned (.bool true) ∧ ∃ m, w' = (wr.drewN n).drewN m) :=
                    fun n => arec_calls (s.p % 3) (s.n % 4) s.z g 0 cap s.a s.c (wr.drewN n) (hrec.moved fun _ _ _ => rfl) (hrw.moved fun _ _ _ => rfl) (by omega) (by omega) (by omega)
                  clear hs hrec hrow hrw
                  go_wp2_with fail
                  go_quiet ((go_at_call 9; refine Calls.quiet_of (HAR.out _)))
                  go_wp2
                  go_roundg (ss.length - (j + 1))
                  case rel => exact ⟨j + 1, by omega, by go_num, rfl, HAM.out.drewN _⟩
                  case measure => omega
                · go_wp2_with fail
                  go_loopg [16] 3 (fun k v wr => ∃ q : Nat, q ≤ 3 ∧ v = .int .i64 q ∧ k = 3 - q ∧ All w.heap.size w ss ss.length wr)
                  case atStart => exact ⟨0, by omega, rfl, rfl, HAM.out⟩
                  case round =>
                    obtain ⟨r, hr, rfl, rfl, hall⟩ := hrel
                    have HAN := hid hall
                    clear hall HAM
                    by_cases hr3 : r < 3
                    · obtain ⟨rv, wv, rl, es, own, ix, hC, hT, hTi⟩ := HAN.out
                      have m39 := hC.map
                      have hlk := run_look (P := Yba.prog) Yba.underlying26 Yba.underlying40 hC.ownm r (Yba.zeroValue41 wr) false
                      rw [hC.keys r] at hlk
                      obtain ⟨x4, e4, d4⟩ := hT.t4
                      obtain ⟨x5, e5, d5⟩ := hT.t5
                      obtain ⟨x6, e6, d6⟩ := hT.t6
                      have v4 : wr.cell? ⟨w.heap.size + 4, r, none⟩ = some (.bool (own r).isSome) := by simp [World.cell?, e4, d4 r hr3]
                      have v5 : wr.cell? ⟨w.heap.size + 5, r, none⟩ = some (.int .u64 ((own r).elim 0 (·.st))) := by simp [World.cell?, e5, d5 r hr3]
                      have hv6 : Hid (∀ m, m < 4 → wr.cell? ⟨w.heap.size + 6, r * 4 + m, none⟩ = some (.int .i64 (ix r m))) := fun m hm => by simp [World.cell?, e6, d6 r m hr3 hm]
                      have HC := hid hC
                      have HTI := hid hTi
                      clear hC hT hTi e4 d4 e5 d5 e6 d6
                      cases ho : own r with
                      | none =>
                        rw [ho] at hlk v4 v5
                        simp only [Bool.false_eq_true, if_false, Option.map_none, Option.getD_none, Option.isSome_none] at hlk v4
                        clear v5 ho
                        go_wp2
                        go_roundg (3 - (r + 1))
                        case rel => exact ⟨r + 1, by omega, by go_num, rfl, HAN.out⟩
                        case measure => omega
                      | some ob =>
                        rw [ho] at hlk v4 v5
                        simp only [Bool.false_eq_true, if_false, Option.map_some, Option.getD_some, Option.isSome_some, Option.elim_some] at hlk v4 v5
                        have hO := HC.out.obs r ob ho
                        have hob := hO.ob
                        have o0 : wr.cell? ⟨ob.oB, 0, none⟩ = some (.int .u64 ob.st) := by simp [World.cell?, hob]
                        have o1 : wr.cell? ⟨ob.oB, 1, none⟩ = some (.int .u64 0) := by simp [World.cell?, hob]
                        have o2 : wr.cell? ⟨ob.oB, 2, none⟩ = some (.int .u64 1) := by simp [World.cell?, hob]
                        have o3 : wr.cell? ⟨ob.oB, 3, none⟩ = some (.map (some ob.vB)) := by simp [World.cell?, hob]
                        have HO := hid ho
                        have HVB := hid hO.vb
                        clear ho hO hob
                        go_wp2_with fail
                        go_quiet (fail)
                        go_wp2_with fail
                        clear v4 v5 hlk o0 o1 o2 m39
                        rw [show decide ((r : Int) < 3) = true from by simp; omega]
                        go_loopg [18, 19] 4 (fun k vc v wz => ∃ m n : Nat, m ≤ 4 ∧ vc = .int .i64 (cnt (ix r) m : Nat) ∧ v = .int .i64 m ∧ k = 4 - m ∧ wr.drewN n = wz)
                        case atStart => exact ⟨0, _, by omega, rfl, rfl, rfl, rfl⟩
                        case round =>
                          obtain ⟨m, n, hm, rfl, rfl, rfl, rfl⟩ := hrel
                          by_cases hm4 : m < 4
                          · have v6 := hv6.out m hm4
                            have hcn : cnt (ix r) m ≤ m := cnt_le _ _
                            rcases HTI.out.yes r ob m HO.out hm4 with ⟨h1, _⟩ | ⟨j, s, h1, h2, h3, h4⟩
                            · rw [h1] at v6
                              have HH := hid h1
                              clear h1
                              go_wp2
                              go_roundg (4 - (m + 1))
                              case rel =>
                                refine ⟨m + 1, n, by omega, ?_, by go_num, rfl, rfl⟩
                                have e : cnt (ix r) (m + 1) = cnt (ix r) m := by simp [cnt, HH.out]
                                rw [e]
                              case measure => omega
                            · rw [h1] at v6
                              have HH := hid h1
                              have hl2 := run_look (P := Yba.prog) (w := wr.drewN n) Yba.underlying43 Yba.underlying22 HVB.out m (Yba.zeroValue23 _) true
                              rw [h4] at hl2
                              unfold Step.val at hl2
                              simp only [if_true, Option.getD_some, Option.isSome_some] at hl2
                              obtain ⟨b, o, rfl, hb, c0, c1, c2⟩ := HIN.out.place j s h3
                              have hrow := HIN.out.row s (List.mem_of_getElem? h3)
                              rw [← HAN.out.bel.cell (p := ⟨b, o + j * 3 + 2, none⟩) hb] at c2
                              unfold Step.val at c2
                              have hrw : RowIn (wr.drewN n) s.a s.c s.z := hrow.moved fun g hg hn => HAN.out.bel.block _ (hrow.lt g hg hn)
                              have HEQ := hid (equal_calls s.z s.a s.a s.c s.c (wr.drewN n) hrw hrw)
                              have hz := hrow.le
                              have hz2 := hrow.cap
                              unfold maxLen at hz2
                              clear h1 h4 h3 c0 c1 hrw hrow
                              go_wp2_with fail
                              refine HEQ.out.mono ?_
                              rintro e wx ⟨rfl, hwx⟩
                              subst hwx
                              clear hl2 c2
                              go_wp2
                              go_roundg (4 - (m + 1))
                              case rel =>
                                refine ⟨m + 1, n, by omega, ?_, by go_num, rfl, rfl⟩
                                have e : cnt (ix r) (m + 1) = cnt (ix r) m + 1 := by simp [cnt, HH.out]
                                rw [e]
                                go_num
                              case measure => omega
                          · obtain rfl : m = 4 := by omega
                            have n2 := fun ty => run_mlen (P := Yba.prog) (w := wr.drewN n) Yba.underlying43 HVB.out ty
                            rw [HTI.out.len r ob HO.out] at n2
                            go_wp2
                            go_roundg (3 - (r + 1))
                            case rel => exact ⟨r + 1, by omega, by go_num, rfl, HAN.out.drewN _⟩
                            case measure => omega
                    · go_wp2
                      go_ret
                      exact ⟨rfl, HAN.out.bel⟩
end Go.Proofs.Ybulklay
