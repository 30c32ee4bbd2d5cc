import Derived.Test.YbulklayFmtStr
import Derived.Laws.BitsAllLaws
namespace Go.Proofs.YbulklayFmt
open Go.RowKit Go.Kit Go.Extern.Stop Go.Stop Go.Extern

theorem rs_fin : ∀ u : Fin 64, rs (u.val : Int) = 0 := by decide +kernel
theorem rs_low {v : Int} (h0 : 0 ≤ v) (h1 : v < 64) : rs v = 0 := by
  have := rs_fin ⟨v.toNat, by omega⟩
  simp only at this
  rwa [show ((v.toNat : Nat) : Int) = v by omega] at this
theorem allB_low (F : Interp) {v : Int} (h : rs v = 0) : allB F v = pk v 6 := by simp [allB, h]
theorem lo_eq (v : Int) : (⟨(Lib.join ((pk v 6).map (·.data.toList)) [124]).toArray⟩ : ByteArray) = lo v 6 := by
  rw [← (lo_join v 6).1]
theorem join_len (v : Int) : (Lib.join ((pk v 6).map (·.data.toList)) [124]).length ≤ 114 := by
  rw [← (lo_join v 6).1]
  exact lo_size v 6
theorem got_low (F : Interp) {v : Int} (h : rs v = 0) : got F v = if (lo v 6).toList.isEmpty then ⟨#[48]⟩ else lo v 6 := by
  unfold got
  rw [allB_low F h, Lib.toList_data, lo_eq]
  have h2 := (lo_join v 6).2
  by_cases he : pk v 6 = []
  · rw [if_pos he, if_pos (by rw [h2.2 he]; rfl)]
  · have hn : (lo v 6).data.toList ≠ [] := fun e => he (h2.1 e)
    rw [if_neg he, if_neg (by simpa using hn)]

set_option maxHeartbeats 400000 in
theorem lawLow_calls (F : Interp) (x : Int) (b off cap : Nat) (w : World) (hn : Names w b off cap) (hF : F.answers w.tape) (h0 : 0 ≤ x) (h1 : x < 256) :
    Calls Ybaf.prog 3 #[.int .u8 x] w fun e w' => e = .returned (.bool true) ∧ Below w.heap.size w w' := by
  have hr : rs (x % 64) = 0 := rs_low (by omega) (by omega)
  have HS := hid (str_calls F (x % 64) b off cap w hn hF (by rw [allB_low F hr]; have := join_len (x % 64); omega))
  have HG := hid (got_low F hr)
  have HL := @low_calls (x % 64)
  have HL := hid HL
  clear hn hF hr
  go_enter Ybaf.func3, Ybaf.ntmps3
  go_wp2_with fail
  refine HS.out.mono ?_
  rintro e w1 ⟨rfl, hb⟩
  have HB := hid hb
  clear hb
  go_wp2_with fail
  refine (HL.out w1).mono ?_
  rintro e w2 ⟨rfl, hw2⟩
  subst hw2
  rw [HG.out]
  cases he : (lo (x % 64) 6).toList.isEmpty
  · simp only [Bool.false_eq_true, if_false]
    go_wp2
    go_ret
    exact ⟨rfl, HB.out⟩
  · simp only [if_true]
    go_wp2
    go_ret
    exact ⟨rfl, HB.out⟩
end Go.Proofs.YbulklayFmt
