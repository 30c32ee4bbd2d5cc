import Derived.Test.YbulklayRec
import Derived.Deep.QuietTactic
import Derived.BigQuiet
namespace Go.Proofs.Ybulklay
open Go.RowKit

set_option maxHeartbeats 2000000 in
set_option maxRecDepth 100000 in
theorem arec_calls (p num : Int) (zs : List Int) (rb ro rcap : Nat) (ao : Option Addr) (cp : Nat) (w : World)
    (hrec : RowIn w (some ⟨rb, ro, none⟩) rcap (recOf p num zs)) (hval : RowIn w ao cp zs) (h0 : 0 ≤ num) (h1 : num < 18446744073709551616) (hl : zs.length ≤ 1000000) :
    Calls Yba.prog 9 #[.slice (some ⟨rb, ro, none⟩) (10 + zs.length) rcap, .int .u8 p, .int .u64 num, .slice ao zs.length cp] w fun e w' => e = .returned (.bool true) ∧ ∃ n, w' = w.drewN n := by
  have hlen : (recOf p num zs).length = 10 + zs.length := by simp [recOf, be]; omega
  have hc : ∀ j, j < 10 + zs.length → w.cell? ⟨rb, ro + j, none⟩ = some (.int .u8 ((recOf p num zs).getD j 0)) := by
    obtain ⟨b, o, e, _, hc⟩ := hrec.plain (by omega)
    simp at e
    obtain ⟨rfl, rfl⟩ := e
    exact fun j hj => hc j (by omega)
  have c0 : w.cell? ⟨rb, ro, none⟩ = some (.int .u8 3) := hc 0 (by omega)
  have c1 : w.cell? ⟨rb, ro + 1, none⟩ = some (.int .u8 p) := hc 1 (by omega)
  have c2 : w.cell? ⟨rb, ro + 2, none⟩ = some (.int .u8 (num / 72057594037927936)) := hc 2 (by omega)
  have c3 : w.cell? ⟨rb, ro + 3, none⟩ = some (.int .u8 (num / 281474976710656 % 256)) := hc 3 (by omega)
  have c4 : w.cell? ⟨rb, ro + 4, none⟩ = some (.int .u8 (num / 1099511627776 % 256)) := hc 4 (by omega)
  have c5 : w.cell? ⟨rb, ro + 5, none⟩ = some (.int .u8 (num / 4294967296 % 256)) := hc 5 (by omega)
  have c6 : w.cell? ⟨rb, ro + 6, none⟩ = some (.int .u8 (num / 16777216 % 256)) := hc 6 (by omega)
  have c7 : w.cell? ⟨rb, ro + 7, none⟩ = some (.int .u8 (num / 65536 % 256)) := hc 7 (by omega)
  have c8 : w.cell? ⟨rb, ro + 8, none⟩ = some (.int .u8 (num / 256 % 256)) := hc 8 (by omega)
  have c9 : w.cell? ⟨rb, ro + 9, none⟩ = some (.int .u8 (num % 256)) := hc 9 (by omega)
  have HT : Hid (∀ j, j < zs.length → w.cell? ⟨rb, ro + (10 + j), none⟩ = some (.int .u8 (zs.getD j 0))) := by
    intro j hj
    rw [hc (10 + j) (by omega)]
    simp [recOf, be, List.getD, Nat.add_comm 10 j]
  have HV := hid hval
  have hcap := hrec.le
  have hcm := hrec.cap
  rw [hlen] at hcap
  unfold maxLen at hcm
  clear hrec hval hc hlen
  go_enter Yba.func9, Yba.ntmps9
  go_wp2
  go_loop [9] (fun v => ∃ k : Nat, k ≤ 8 ∧ v = .int .i64 k) (fun v => 8 - (intOf v).toNat)
  case atStart => exact ⟨0, by omega, rfl⟩
  case round =>
    obtain ⟨k, hk, rfl⟩ := hrel
    rcases (show k = 0 ∨ k = 1 ∨ k = 2 ∨ k = 3 ∨ k = 4 ∨ k = 5 ∨ k = 6 ∨ k = 7 ∨ k = 8 from by omega) with rfl | rfl | rfl | rfl | rfl | rfl | rfl | rfl | rfl
    · go_wp2
      go_round
      case rel => exact ⟨1, by omega, rfl⟩
      case measure => simp [intOf]
    · go_wp2
      go_round
      case rel => exact ⟨2, by omega, rfl⟩
      case measure => simp [intOf]
    · go_wp2
      go_round
      case rel => exact ⟨3, by omega, rfl⟩
      case measure => simp [intOf]
    · go_wp2
      go_round
      case rel => exact ⟨4, by omega, rfl⟩
      case measure => simp [intOf]
    · go_wp2
      go_round
      case rel => exact ⟨5, by omega, rfl⟩
      case measure => simp [intOf]
    · go_wp2
      go_round
      case rel => exact ⟨6, by omega, rfl⟩
      case measure => simp [intOf]
    · go_wp2
      go_round
      case rel => exact ⟨7, by omega, rfl⟩
      case measure => simp [intOf]
    · go_wp2
      go_round
      case rel => exact ⟨8, by omega, rfl⟩
      case measure => simp [intOf]
    · clear c0 c1 c2 c3 c4 c5 c6 c7 c8 c9
      go_wp2
      go_loopw [10] (fun v wr => ∃ j n : Nat, j ≤ zs.length ∧ v = .int .i64 j ∧ wr = w.drewN n) (fun v _ => zs.length - (intOf v).toNat)
      case atStart => exact ⟨0, 0, by omega, rfl, rfl⟩
      case round =>
        obtain ⟨j, n, hj, rfl, rfl⟩ := hrel
        by_cases hjl : j < zs.length
        · obtain ⟨vb, vo, rfl, _, hvc⟩ := HV.out.plain (by omega)
          have t1 := HT.out j hjl
          have t2 := hvc j hjl
          obtain ⟨c, hcv⟩ : ∃ c, zs.getD j 0 = c := ⟨_, rfl⟩
          rw [hcv] at t1 t2
          have hi1 : (10 : Int) + (j : Int) < 10 + (zs.length : Int) := by omega
          clear hcv hvc HT HV
          go_wp2
          go_quiet (fail)
          go_wp2
          go_roundw
          case rel => exact ⟨j + 1, _, by omega, by go_num, rfl⟩
          case measure => simp [intOf]; omega
        · go_wp2
          go_ret
          exact ⟨rfl, n, rfl⟩
end Go.Proofs.Ybulklay
