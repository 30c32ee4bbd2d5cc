import Derived.Test.YbulkktkDoorTable
namespace Go.Proofs.YbulkktkDoor
open Go.RowKit

set_option maxHeartbeats 400000 in
/-- ErrorCode with no record, at a verdict other than FORMERR: the code and the flag of errorFor's answer. -/
theorem errorCode_calls (x c d : Int) (s ok : Bool) (w : World) (b off cap : Nat) (T : Tab w b off cap) (n6 : (x == 6) = false) (hE : eF x = .tuple #[.agg #[.int .u16 c, .int .u8 d, .bool s], .bool ok]) :
    Calls Ybad.prog 6 #[.pointer none, .int .u8 x] w fun e w' => e = .returned (.tuple #[.int .u16 c, .bool ok]) ∧ Below w.heap.size w w' := by
  have HT : Hid (Tab w b off cap) := T
  have HE : Hid (eF x = .tuple #[.agg #[.int .u16 c, .int .u8 d, .bool s], .bool ok]) := hE
  clear T hE
  go_enter Ybad.func6, Ybad.ntmps6
  go_wp2_with (go_at_call 5; refine (errorFor_at x _ _ b off cap HT.out HE.out).mono ?_; rintro e w' ⟨rfl, hb⟩)
  go_ret2
  exact ⟨rfl, hb.alloc hb.size _⟩

set_option maxHeartbeats 400000 in
theorem code_law (x c d : Int) (s ok : Bool) (w : World) (b off cap : Nat) (T : Tab w b off cap) (n6 : (x == 6) = false) (hE : eF x = .tuple #[.agg #[.int .u16 c, .int .u8 d, .bool s], .bool ok]) (hok : ok = false → c = 0) :
    Calls Ybad.prog 4 #[.int .u8 x] w fun e w' => e = .returned (.bool true) ∧ Below w.heap.size w w' := by
  have HT : Hid (Tab w b off cap) := T
  have hw0 : 0 < w.heap.size := World.block_lt_of_cell? _ _ T.g
  have hwb : b < w.heap.size := World.block_lt_of_cell? _ _ T.c0
  have HE : Hid (eF x = .tuple #[.agg #[.int .u16 c, .int .u8 d, .bool s], .bool ok]) := hE
  clear T hE
  cases ok
  · obtain rfl : c = 0 := hok rfl
    clear hok
    go_enter Ybad.func4, Ybad.ntmps4
    go_wp2_with (first | (go_at_call 6; refine (errorCode_calls x _ _ _ _ _ b off cap HT.out n6 HE.out).mono ?_; rintro e w' ⟨rfl, hb⟩) | (go_at_call 5; refine (errorFor_at x _ _ b off cap (HT.out.below hb hwb hw0) HE.out).mono ?_; rintro e w'' ⟨rfl, hb2⟩))
    go_ret
    exact ⟨rfl, (hb.trans (hb2.mono hb.size)).alloc (Nat.le_trans hb.size hb2.size) _⟩
  · clear hok
    go_enter Ybad.func4, Ybad.ntmps4
    go_wp2_with (first | (go_at_call 6; refine (errorCode_calls x _ _ _ _ _ b off cap HT.out n6 HE.out).mono ?_; rintro e w' ⟨rfl, hb⟩) | (go_at_call 5; refine (errorFor_at x _ _ b off cap (HT.out.below hb hwb hw0) HE.out).mono ?_; rintro e w'' ⟨rfl, hb2⟩))
    go_ret
    exact ⟨rfl, (hb.trans (hb2.mono hb.size)).alloc (Nat.le_trans hb.size hb2.size) _⟩

theorem code_6 (w : World) : Calls Ybad.prog 4 #[.int .u8 6] w fun e w' => e = .returned (.bool true) ∧ Below w.heap.size w w' := by
  go_enter Ybad.func4, Ybad.ntmps4
  go_wp2
  go_ret
  exact ⟨rfl, Below.refl _ _⟩

/-- LawS0569AErrorCode: true at every octet. -/
theorem code_calls (x : Int) (w : World) (b off cap : Nat) (T : Tab w b off cap) :
    Calls Ybad.prog 4 #[.int .u8 x] w fun e w' => e = .returned (.bool true) ∧ Below w.heap.size w w' := by
  by_cases h6 : x = 6
  · subst h6; exact code_6 w
  have n6 : (x == 6) = false := beq_eq_false_iff_ne.2 h6
  by_cases h2 : x = 2
  · subst h2; exact code_law 2 16 2 false true w b off cap T n6 rfl (fun h => by cases h)
  by_cases h3 : x = 3
  · subst h3; exact code_law 3 17 3 false true w b off cap T n6 rfl (fun h => by cases h)
  by_cases h4 : x = 4
  · subst h4; exact code_law 4 18 4 true true w b off cap T n6 rfl (fun h => by cases h)
  by_cases h5 : x = 5
  · subst h5; exact code_law 5 22 5 true true w b off cap T n6 rfl (fun h => by cases h)
  exact code_law x 0 0 false false w b off cap T n6 (by simp [eF, h2, h3, h4, h5]) (fun _ => rfl)
end Go.Proofs.YbulkktkDoor
