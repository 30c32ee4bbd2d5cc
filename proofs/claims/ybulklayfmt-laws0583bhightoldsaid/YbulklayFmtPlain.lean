import Derived.Test.YbulklayFmtRows
import Derived.Test.YbulklayFmtShelf
import Derived.WalkKit
import Derived.Below
import Derived.Maps.AppendAt
import Derived.Deep.LoopGhost
namespace Go.Proofs.YbulklayFmt
open Go.RowKit

theorem hid {p : Prop} (h : p) : Hid p := h
/-- The name of bit k. -/
def nameB : Nat → ByteArray
  | 0 => ⟨#[68, 101, 108, 105, 118, 101, 114, 105, 101, 115]⟩
  | 1 => ⟨#[68, 101, 99, 105, 115, 105, 111, 110, 115]⟩
  | 2 => ⟨#[86, 97, 108, 117, 101, 68, 101, 99, 105, 115, 105, 111, 110, 115]⟩
  | 3 => ⟨#[86, 101, 99, 116, 111, 114, 68, 101, 99, 105, 115, 105, 111, 110, 115]⟩
  | 4 => ⟨#[82, 101, 108, 105, 97, 98, 108, 101, 68, 101, 108, 105, 118, 101, 114, 105, 101, 115]⟩
  | _ => ⟨#[69, 99, 104, 111, 68, 101, 108, 105, 118, 101, 114, 105, 101, 115]⟩
/-- The test of round k, in the walk's own form. -/
def tb (v : Int) (k : Nat) : Bool := bits BinOp.and IntKind.u64 v (IntKind.u64.wrap (2 ^ k)) != 0
/-- The names picked behind k rounds. -/
def pk (v : Int) : Nat → List ByteArray
  | 0 => []
  | k + 1 => pk v k ++ (if tb v k then [nameB k] else [])
/-- The law's own text behind k rounds. -/
def lo (v : Int) : Nat → ByteArray
  | 0 => ⟨#[]⟩
  | k + 1 => if tb v k then (if (lo v k).toList.isEmpty then lo v k ++ nameB k else lo v k ++ ⟨#[124]⟩ ++ nameB k) else lo v k

theorem pk_len (v : Int) : ∀ k, (pk v k).length ≤ k
  | 0 => Nat.le_refl _
  | k + 1 => by
    have := pk_len v k
    simp only [pk, List.length_append]
    split <;> simp <;> omega
theorem name_size (k : Nat) : (nameB k).size ≤ 18 ∧ 9 ≤ (nameB k).size := by
  match k with
  | 0 => decide
  | 1 => decide
  | 2 => decide
  | 3 => decide
  | 4 => decide
  | k + 5 => exact ⟨by show 14 ≤ 18; omega, by show 9 ≤ 14; omega⟩
theorem lo_size (v : Int) : ∀ k, (lo v k).size ≤ 19 * k
  | 0 => Nat.le_refl _
  | k + 1 => by
    have := lo_size v k
    have := name_size k
    unfold lo
    split
    · split
      · rw [ByteArray.size_append]; omega
      · have h1 : (⟨#[124]⟩ : ByteArray).size = 1 := rfl
        rw [ByteArray.size_append, ByteArray.size_append, h1]
        omega
    · omega

theorem join_snoc (xs : List (List UInt8)) (y : List UInt8) (h : xs ≠ []) : Lib.join (xs ++ [y]) [124] = Lib.join xs [124] ++ 124 :: y := by
  cases xs with
  | nil => exact absurd rfl h
  | cons x r =>
    rw [List.cons_append, Lib.join_cons, Lib.join_cons]
    simp [Lib.joinTail]
/-- The law's own text is the names' join. -/
theorem lo_join (v : Int) : ∀ k, (lo v k).data.toList = Lib.join ((pk v k).map (·.data.toList)) [124] ∧ ((lo v k).data.toList = [] ↔ pk v k = [])
  | 0 => by simp [lo, pk, Lib.join]
  | k + 1 => by
    obtain ⟨h1, h2⟩ := lo_join v k
    have hn : (nameB k).data.toList ≠ [] := by
      intro e
      have := (name_size k).2
      have h3 : (nameB k).data.toList.length = (nameB k).size := Array.length_toList
      rw [e] at h3
      simp at h3
      omega
    unfold lo pk
    cases hb : tb v k
    · simp only [Bool.false_eq_true, if_false, List.append_nil]
      exact ⟨h1, h2⟩
    · simp only [if_true]
      cases he : (lo v k).toList.isEmpty
      · rw [Lib.toList_data] at he
        have hne : pk v k ≠ [] := fun e => by rw [h2.2 e] at he; cases he
        rw [if_neg (by simp)]
        refine ⟨?_, ?_⟩
        · rw [List.map_append, List.map_singleton, join_snoc _ _ (by simpa using hne), ← h1, ByteArray.data_append, ByteArray.data_append, Array.toList_append, Array.toList_append]
          simp
        · simp [hne]
      · rw [Lib.toList_data] at he
        have hnil : (lo v k).data.toList = [] := by simpa using he
        rw [if_pos rfl]
        refine ⟨?_, ?_⟩
        · rw [h2.1 hnil]
          simp [hnil, Lib.join_one]
        · simp [hnil, hn]

theorem name_calls (k : Nat) (w : World) (hk : k < 6) : Calls Ybaf.prog 10 #[.int .i64 k] w fun e w' => e = .returned (.string (nameB k)) ∧ w = w' := by
  rcases (show k = 0 ∨ k = 1 ∨ k = 2 ∨ k = 3 ∨ k = 4 ∨ k = 5 by omega) with rfl | rfl | rfl | rfl | rfl | rfl
  all_goals
    go_enter Ybaf.func10, Ybaf.ntmps10
    go_wp2
    go_ret
    exact ⟨rfl, rfl⟩

set_option maxHeartbeats 400000 in
theorem low_calls (v : Int) (w : World) :
    Calls Ybaf.prog 6 #[.int .u64 v] w fun e w' => e = .returned (.string (lo v 6)) ∧ w = w' := by
  go_enter Ybaf.func6, Ybaf.ntmps6
  go_wp2
  go_loopg [3, 4] 6 (fun k v3 v4 wr => ∃ j : Nat, j ≤ 6 ∧ v3 = .string (lo v j) ∧ v4 = .int .i64 j ∧ k = 6 - j ∧ w = wr)
  case atStart => exact ⟨0, by omega, rfl, rfl, rfl, rfl⟩
  case round =>
    obtain ⟨j, hj, rfl, rfl, rfl, rfl⟩ := hrel
    by_cases hj6 : j < 6
    · have HN := hid (name_calls j w hj6)
      have hs := lo_size v j
      have hns := name_size j
      cases hb : tb v j
      · have hb' : (bits BinOp.and IntKind.u64 v (IntKind.u64.wrap (2 ^ j)) != 0) = false := hb
        have HB := hid hb
        clear hb
        go_wp2
        go_roundg (6 - (j + 1))
        case rel =>
          refine ⟨j + 1, by omega, ?_, by go_num, rfl, rfl⟩
          simp [lo, HB.out]
        case measure => omega
      · have hb' : (bits BinOp.and IntKind.u64 v (IntKind.u64.wrap (2 ^ j)) != 0) = true := hb
        have HB := hid hb
        clear hb
        cases he : (lo v j).toList.isEmpty
        · have HE := hid he
          go_wp2_with fail
          refine HN.out.mono ?_
          rintro e w1 ⟨rfl, hw1⟩
          subst hw1
          have hs1 : (lo v j ++ ⟨#[124]⟩ : ByteArray).size ≤ 19 * j + 1 := by
            rw [ByteArray.size_append]; show (lo v j).size + 1 ≤ _; omega
          go_wp2
          go_roundg (6 - (j + 1))
          case rel =>
            refine ⟨j + 1, by omega, ?_, by go_num, rfl, rfl⟩
            simp [lo, HB.out, HE.out]
          case measure => omega
        · have HE := hid he
          go_wp2_with fail
          refine HN.out.mono ?_
          rintro e w1 ⟨rfl, hw1⟩
          subst hw1
          go_wp2
          go_roundg (6 - (j + 1))
          case rel =>
            refine ⟨j + 1, by omega, ?_, by go_num, rfl, rfl⟩
            simp [lo, HB.out, HE.out]
          case measure => omega
    · obtain rfl : j = 6 := by omega
      go_wp2
      go_ret
      exact ⟨rfl, rfl⟩
end Go.Proofs.YbulklayFmt
