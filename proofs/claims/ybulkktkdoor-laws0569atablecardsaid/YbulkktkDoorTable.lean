import Derived.Test.YbulkktkDoorWalks
namespace Go.Proofs.YbulkktkDoor
open Go.RowKit

theorem errorFor_at (v : Int) (u : Value) (w : World) (b off cap : Nat) (T : Tab w b off cap) (hu : eF v = u) :
    Calls Ybad.prog 5 #[.int .u8 v] w fun e w' => e = .returned u ∧ Below w.heap.size w w' := by
  subst hu; exact errorFor_calls v w b off cap T

set_option maxHeartbeats 400000 in
theorem table_2 (w : World) (b off cap : Nat) (T : Tab w b off cap) :
    Calls Ybad.prog 3 #[.int .u8 2] w fun e w' => e = .returned (.bool true) ∧ Below w.heap.size w w' := by
  have HT : Hid (Tab w b off cap) := T
  clear T
  go_enter Ybad.func3, Ybad.ntmps3
  go_wp2_with (go_at_call 5; refine (errorFor_at 2 (.tuple #[.agg #[.int .u16 16, .int .u8 2, .bool false], .bool true]) _ b off cap HT.out rfl).mono ?_; rintro e w' ⟨rfl, hb⟩)
  go_ret
  exact ⟨rfl, hb.alloc hb.size _⟩

set_option maxHeartbeats 400000 in
theorem table_3 (w : World) (b off cap : Nat) (T : Tab w b off cap) :
    Calls Ybad.prog 3 #[.int .u8 3] w fun e w' => e = .returned (.bool true) ∧ Below w.heap.size w w' := by
  have HT : Hid (Tab w b off cap) := T
  clear T
  go_enter Ybad.func3, Ybad.ntmps3
  go_wp2_with (go_at_call 5; refine (errorFor_at 3 (.tuple #[.agg #[.int .u16 17, .int .u8 3, .bool false], .bool true]) _ b off cap HT.out rfl).mono ?_; rintro e w' ⟨rfl, hb⟩)
  go_ret
  exact ⟨rfl, hb.alloc hb.size _⟩

set_option maxHeartbeats 400000 in
theorem table_4 (w : World) (b off cap : Nat) (T : Tab w b off cap) :
    Calls Ybad.prog 3 #[.int .u8 4] w fun e w' => e = .returned (.bool true) ∧ Below w.heap.size w w' := by
  have HT : Hid (Tab w b off cap) := T
  clear T
  go_enter Ybad.func3, Ybad.ntmps3
  go_wp2_with (go_at_call 5; refine (errorFor_at 4 (.tuple #[.agg #[.int .u16 18, .int .u8 4, .bool true], .bool true]) _ b off cap HT.out rfl).mono ?_; rintro e w' ⟨rfl, hb⟩)
  go_ret
  exact ⟨rfl, hb.alloc hb.size _⟩

set_option maxHeartbeats 400000 in
theorem table_5 (w : World) (b off cap : Nat) (T : Tab w b off cap) :
    Calls Ybad.prog 3 #[.int .u8 5] w fun e w' => e = .returned (.bool true) ∧ Below w.heap.size w w' := by
  have HT : Hid (Tab w b off cap) := T
  clear T
  go_enter Ybad.func3, Ybad.ntmps3
  go_wp2_with (go_at_call 5; refine (errorFor_at 5 (.tuple #[.agg #[.int .u16 22, .int .u8 5, .bool true], .bool true]) _ b off cap HT.out rfl).mono ?_; rintro e w' ⟨rfl, hb⟩)
  go_ret
  exact ⟨rfl, hb.alloc hb.size _⟩

set_option maxHeartbeats 400000 in
theorem table_no (x : Int) (w : World) (b off cap : Nat) (T : Tab w b off cap) (n2 : (x == 2) = false) (n3 : (x == 3) = false) (n4 : (x == 4) = false) (n5 : (x == 5) = false) :
    Calls Ybad.prog 3 #[.int .u8 x] w fun e w' => e = .returned (.bool true) ∧ Below w.heap.size w w' := by
  have HT : Hid (Tab w b off cap) := T
  have he : eF x = .tuple #[.agg #[.int .u16 0, .int .u8 0, .bool false], .bool false] := by
    rw [beq_eq_false_iff_ne] at n2 n3 n4 n5
    simp [eF, n2, n3, n4, n5]
  have HE : Hid (eF x = .tuple #[.agg #[.int .u16 0, .int .u8 0, .bool false], .bool false]) := he
  clear T he
  go_enter Ybad.func3, Ybad.ntmps3
  go_wp2_with (go_at_call 5; refine (errorFor_at x (.tuple #[.agg #[.int .u16 0, .int .u8 0, .bool false], .bool false]) _ b off cap HT.out HE.out).mono ?_; rintro e w' ⟨rfl, hb⟩)
  go_ret
  exact ⟨rfl, hb.alloc hb.size _⟩

/-- LawS0569ATable: true at every octet. -/
theorem table_calls (x : Int) (w : World) (b off cap : Nat) (T : Tab w b off cap) :
    Calls Ybad.prog 3 #[.int .u8 x] w fun e w' => e = .returned (.bool true) ∧ Below w.heap.size w w' := by
  by_cases h2 : x = 2
  · subst h2; exact table_2 w b off cap T
  by_cases h3 : x = 3
  · subst h3; exact table_3 w b off cap T
  by_cases h4 : x = 4
  · subst h4; exact table_4 w b off cap T
  by_cases h5 : x = 5
  · subst h5; exact table_5 w b off cap T
  exact table_no x w b off cap T (beq_eq_false_iff_ne.2 h2) (beq_eq_false_iff_ne.2 h3) (beq_eq_false_iff_ne.2 h4) (beq_eq_false_iff_ne.2 h5)
end Go.Proofs.YbulkktkDoor
