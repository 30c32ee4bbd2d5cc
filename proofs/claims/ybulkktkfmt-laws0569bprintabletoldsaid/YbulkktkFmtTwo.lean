import Derived.Test.YbulkktkFmtText
import Derived.Test.YbulkktkFmtPlain2
import Derived.Maps.AppendAt
namespace Go.Proofs.YbulkktkFmt
open Go.RowKit Go.Kit Go.Extern.Stop Go.Stop Go.Extern
open Plain

/-- Two slices of octets of the call's own, in two rows; below the call's own blocks nothing has turned. -/
structure Two (w wr : World) (v u : Value) (xs ys : List UInt8) : Prop where
  ov : wr.ownsRow w.heap.size 5 1 v xs.length (Lib.byteCells xs)
  ou : wr.ownsRow w.heap.size 5 1 u ys.length (Lib.byteCells ys)
  apart : v.ownBlock = none ∨ u.ownBlock = none ∨ v.ownBlock ≠ u.ownBlock
  bel : Below w.heap.size w wr

theorem Two.swap {w wr : World} {v u : Value} {xs ys : List UInt8} (h : Two w wr v u xs ys) : Two w wr u v ys xs :=
  ⟨h.ou, h.ov, by rcases h.apart with a | a | a; exact .inr (.inl a); exact .inl a; exact .inr (.inr (Ne.symm a)), h.bel⟩
theorem Two.zero (w : World) : Two w w (.slice none 0 0) (.slice none 0 0) [] [] :=
  ⟨World.ownsRow_nil _ _ _ _, World.ownsRow_nil _ _ _ _, .inl rfl, Below.refl _ _⟩

theorem own_lt {w : World} {B : Nat} {v : Value} {n : Nat} {xs : List Value} (h : w.ownsRow B 5 1 v n xs) : ∀ g, v.ownBlock = some g → g < w.heap.size := by
  intro g hg
  rcases h.2 with ⟨rfl, _⟩ | ⟨g', cap, cur, rfl, _, hh, _⟩
  · simp [Value.ownBlock] at hg
  · simp only [Value.ownBlock, Option.some.injEq] at hg
    subst hg
    exact (Array.getElem?_eq_some_iff.1 hh).1

/-- append(v, c), c an octet: the one cell has been laid in a new block. -/
theorem wpList_app {ops : Array Oper} {rest : List Oper} {o : Oper} {a : Act} {Q : Exit → Act → World → Prop} (s x : Operand) (hgd : o.guard = none)
    (ho : o.op = .call { callee := .builtin .append, args := #[s, x], argTypes := #[23, 23] })
    {w wr : World} {v u : Value} {xs ys : List UInt8} (c : Int) (hT : Two w wr v u xs ys) (h0 : 0 ≤ c) (h1 : c < 256) (hl : xs.length ≤ 100000000)
    (hs : a.eval s = v) (hx : a.eval x = .slice (some ⟨wr.heap.size, 0, none⟩) 1 1)
    (h : ∀ v' w', Two w w' v' u (xs ++ [ofI c]) ys → wpList Ybaf.prog ops Q rest (a.put o.dst v') w') :
    wpList Ybaf.prog ops Q (o :: rest) a (wr.alloc (.cells #[.int .u8 c] 5)) := by
  obtain ⟨i0, hi, hz0, hz1, hz2⟩ := info_parts infoByte
  have hsz := hT.bel.size
  refine wpList_append_own_at _ hgd s x 23 ho w.heap.size 5 i0 (.int .u8 0) 1 1 Ybaf.underlying23 hi hz0 hz1 hz2 rfl (by decide) v xs.length (Lib.byteCells xs) hs (hT.ov.alloc _) ⟨wr.heap.size, 0, none⟩ 1 1 [.int .u8 c] hx rfl (cell_one_new _ _ _) (fun y hy => by simp at hy; subst hy; rfl) (by unfold maxLen; omega) (by omega) (by simp; omega) ?_
  intro v' w' hown hgrow _ hat
  refine h v' w' ⟨?_, ?_, ?_, ?_⟩
  · rw [byteCells_snoc xs c h0 h1] at hown
    simpa using hown
  · refine (hT.ou.alloc _).kept hgrow ?_
    rcases hT.apart with e | e | e
    · rw [e]
      rcases hu : u.ownBlock with _ | g
      · exact .inl rfl
      · exact .inr (by simp)
    · exact .inl e
    · exact .inr (Ne.symm e)
  · rcases hat with e | e
    · rw [e]; exact hT.apart
    · rw [e]
      rcases hu : u.ownBlock with _ | g
      · exact .inr (.inl rfl)
      · refine .inr (.inr ?_)
        have := own_lt hT.ou g hu
        intro e2
        simp at e2
        omega
  · exact (hT.bel.alloc hsz _).grown hgrow (by simp; omega) (fun k hk => (hT.ov.lt k hk).1)

theorem map_calls (c : Int) (w : World) (h0 : 0 ≤ c) (h1 : c < 256) :
    Calls Ybaf.prog 5 #[.int .u8 c] w fun e w' => e = .returned (.int .u8 (mI c)) ∧ w = w' := by
  go_enter Ybaf.func5, Ybaf.ntmps5
  go_wp2
  go_ret
  exact ⟨by unfold mI; rfl, rfl⟩
end Go.Proofs.YbulkktkFmt
