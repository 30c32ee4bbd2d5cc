import Derived.Test.YbulklayScriptA
namespace Go.Proofs.Ybulklay
open Go.RowKit
open Go.ChangeMaps (setBlock)

def cnt (f : Nat → Int) : Nat → Nat
  | 0 => 0
  | n + 1 => cnt f n + if 0 ≤ f n then 1 else 0
def updix (ix : Nat → Nat → Int) (q m : Nat) (i : Int) : Nat → Nat → Int := fun r k => if r = q ∧ k = m then i else ix r k

/-- The law's three tables. -/
structure Tab (B : Nat) (W : World) (own : Nat → Option Obs) (ix : Nat → Nat → Int) : Prop where
  t4 : ∃ c, W.heap[B + 4]? = some (.cells c 56 (0, 0)) ∧ ∀ q, q < 3 → c[q]? = some (.bool (own q).isSome)
  t5 : ∃ c, W.heap[B + 5]? = some (.cells c 57 (0, 0)) ∧ ∀ q, q < 3 → c[q]? = some (.int .u64 ((own q).elim 0 (·.st)))
  t6 : ∃ c, W.heap[B + 6]? = some (.cells c 59 (0, 0)) ∧ ∀ q m, q < 3 → m < 4 → c[q * 4 + m]? = some (.int .i64 (ix q m))

structure Tie (ss : List Step) (i : Nat) (own : Nat → Option Obs) (ix : Nat → Nat → Int) : Prop where
  no : ∀ q, own q = none → ∀ m, ix q m = -1
  yes : ∀ q o m, own q = some o → m < 4 → (ix q m = -1 ∧ get o.vs (m : Int) = none) ∨ ∃ j s, ix q m = (j : Nat) ∧ j < i ∧ ss[j]? = some s ∧ get o.vs (m : Int) = some s.val
  len : ∀ q o, own q = some o → o.vs.length = cnt (ix q) 4

theorem put_len (vs : Es) (x : Int) (v : Value) : (put vs x v).length = vs.length + if get vs x = none then 1 else 0 := by
  cases hl : look vs x 0 with
  | none => rw [put_none v x vs 0 hl]; simp [get, hl]
  | some p => rw [put_length_some v x vs 0 p hl]; simp [get, hl]

theorem Tie.step {ss : List Step} {i : Nat} {own : Nat → Option Obs} {ix : Nat → Nat → Int} (h : Tie ss i own ix) {q m : Nat} {o : Obs} {s : Step} (hs : ss[i]? = some s) (hm : m < 4) (hv : o.vs = put ((own q).elim [] (·.vs)) m s.val) :
    Tie ss (i + 1) (upd own q o) (updix ix q m i) := by
  have hget : ∀ k, get o.vs (k : Int) = if k = (m : Int) then some s.val else get ((own q).elim [] (·.vs)) k := fun k => by rw [hv, get_put]
  have hold : ∀ k, k < 4 → (ix q k = -1 ∧ get ((own q).elim [] (·.vs)) (k : Int) = none) ∨ ∃ j s, ix q k = (j : Nat) ∧ j < i ∧ ss[j]? = some s ∧ get ((own q).elim [] (·.vs)) (k : Int) = some s.val := by
    intro k hk
    cases ho : own q with
    | none => exact .inl ⟨h.no q ho k, rfl⟩
    | some p => exact h.yes q p k ho hk
  refine ⟨?_, ?_, ?_⟩
  · intro r hr k
    by_cases hq : r = q
    · subst hq; rw [upd_same] at hr; cases hr
    · rw [upd_other own _ hq] at hr
      unfold updix
      rw [if_neg (fun e => hq e.1)]
      exact h.no r hr k
  · intro r p k hr hk
    by_cases hq : r = q
    · subst hq
      rw [upd_same] at hr
      cases hr
      rw [hget]
      unfold updix
      by_cases hkm : k = m
      · subst hkm
        exact .inr ⟨i, s, by simp, by omega, hs, by simp⟩
      · rw [if_neg (fun e => hkm e.2), if_neg (by omega)]
        rcases hold k hk with h1 | ⟨j, t, h1, h2, h3⟩
        · exact .inl h1
        · exact .inr ⟨j, t, h1, by omega, h3⟩
    · rw [upd_other own _ hq] at hr
      unfold updix
      rw [if_neg (fun e => hq e.1)]
      rcases h.yes r p k hr hk with h1 | ⟨j, t, h1, h2, h3⟩
      · exact .inl h1
      · exact .inr ⟨j, t, h1, by omega, h3⟩
  · intro r p hr
    by_cases hq : r = q
    · subst hq
      rw [upd_same] at hr
      cases hr
      have hlen : ((own r).elim [] (·.vs)).length = cnt (ix r) 4 := by
        cases ho : own r with
        | none => simp [cnt, h.no r ho]
        | some p => exact h.len r p ho
      have hon : (get ((own r).elim [] (·.vs)) (m : Int) = none) ↔ ix r m = -1 := by
        rcases hold m hm with ⟨h1, h2⟩ | ⟨j, t, h1, h2, h3, h4⟩
        · simp [h1, h2]
        · rw [h4]
          constructor
          · intro e; cases e
          · intro e; omega
      rw [hv, put_len, hlen]
      have hb : ∀ k, k < 4 → -1 ≤ ix r k := fun k hk => by
        rcases hold k hk with ⟨h1, _⟩ | ⟨j, t, h1, _⟩ <;> omega
      have b0 := hb 0 (by omega)
      have b1 := hb 1 (by omega)
      have b2 := hb 2 (by omega)
      have b3 := hb 3 (by omega)
      simp only [cnt, updix, true_and, hon]
      rcases (show m = 0 ∨ m = 1 ∨ m = 2 ∨ m = 3 by omega) with rfl | rfl | rfl | rfl <;> simp <;> (repeat' split) <;> omega
    · rw [upd_other own _ hq] at hr
      rw [h.len r p hr]
      have : updix ix q m i r = ix r := by
        funext k
        unfold updix
        rw [if_neg (fun e => hq e.1)]
      rw [this]

theorem Core.moved {B : Nat} {w0 : World} {ss : List Step} {i : Nat} {W W' : World} {rv wv : Value} {rl : List Value} {es : Es} {own : Nat → Option Obs} (h : Core B w0 ss i W rv wv rl es own) (hos : W'.os = W.os) (htp : W'.tape = W.tape) (hou : W'.output = W.output) (hsz : W'.heap.size = W.heap.size)
    (hk : ∀ k, k < B + 4 ∨ B + 7 ≤ k → W'.heap[k]? = W.heap[k]?) (hne : ∀ k cur, B + 4 ≤ k → k < B + 7 → W.heap[k]? ≠ some (.cells cur 5 (0, 0))) : Core B w0 ss i W' rv wv rl es own := by
  have hs := h.size
  refine ⟨h.bel.trans ⟨hos, htp, hou, by omega, fun k hk' => hk k (by omega)⟩, (hk _ (by omega)).trans h.recs, ownsRow_moved h.rrow fun k e => hk k (.inr (ownsRow_ty h.rrow k e).1), ?_, (hk _ (by omega)).trans h.whens,
    ownsRow_moved h.wrow fun k e => hk k (.inr (ownsRow_ty h.wrow k e).1), (hk _ (by omega)).trans h.ownm, ?_, ?_, h.keys, ?_, h.apart, by omega⟩
  · intro j hj
    obtain ⟨v, s, e1, e2, e3⟩ := h.rok j hj
    refine ⟨v, s, e1, e2, e3.moved fun g cur hg => hk g ?_⟩
    by_cases h1 : g < B + 4
    · exact .inl h1
    by_cases h2 : B + 7 ≤ g
    · exact .inr h2
    exact absurd hg (hne g cur (by omega) (by omega))
  · exact (World.cell?_of_block (a := ⟨B + 3, 39, none⟩) (hk (B + 3) (by omega))).trans h.map
  · exact (World.cell?_of_block (a := ⟨B + 3, 48, none⟩) (hk (B + 3) (by omega))).trans h.fn
  · intro q o ho
    have hO := h.obs q o ho
    exact ⟨(hk _ (.inr hO.lo)).trans hO.ob, (hk _ (.inr hO.lv)).trans hO.vb, hO.lo, hO.lv⟩

theorem Tab.not5 {B : Nat} {W : World} {own : Nat → Option Obs} {ix : Nat → Nat → Int} (h : Tab B W own ix) : ∀ k cur, B + 4 ≤ k → k < B + 7 → W.heap[k]? ≠ some (.cells cur 5 (0, 0)) := by
  intro k cur h1 h2 e
  obtain ⟨c4, e4, _⟩ := h.t4
  obtain ⟨c5, e5, _⟩ := h.t5
  obtain ⟨c6, e6, _⟩ := h.t6
  rcases (show k = B + 4 ∨ k = B + 5 ∨ k = B + 6 by omega) with rfl | rfl | rfl
  · rw [e4] at e; cases e
  · rw [e5] at e; cases e
  · rw [e6] at e; cases e

theorem heap_set {W : World} {b k : Nat} {c : Array Value} {v : Value} {t : TypeId} (h : W.heap[b]? = some (.cells c t (0, 0))) : (W.setCell ⟨b, k, none⟩ v).heap[b]? = some (.cells (c.setIfInBounds k v) t (0, 0)) := by
  simp [World.setCell, Array.getElem?_modify, h]

/-- The three stores of a round. -/
def stored (W : World) (B q m : Nat) (i : Int) : World :=
  ((W.setCell ⟨B + 4, q, none⟩ (.bool true)).setCell ⟨B + 5, q, none⟩ (.int .u64 (m : Int))).setCell ⟨B + 6, q * 4 + m, none⟩ (.int .i64 i)
theorem stored_kept (W : World) (B q m : Nat) (i : Int) : ∀ k, k < B + 4 ∨ B + 7 ≤ k → (stored W B q m i).heap[k]? = W.heap[k]? := by
  intro k hk
  unfold stored
  rw [Below.heap_setCell _ _ _ _ (by show k ≠ B + 6; omega), Below.heap_setCell _ _ _ _ (by show k ≠ B + 5; omega), Below.heap_setCell _ _ _ _ (by show k ≠ B + 4; omega)]

theorem Tab.moved {B : Nat} {W W' : World} {own : Nat → Option Obs} {ix : Nat → Nat → Int} (h : Tab B W own ix) (hk : ∀ k, B + 3 ≤ k → k < B + 7 → W'.heap[k]? = W.heap[k]?) : Tab B W' own ix := by
  obtain ⟨c4, e4, d4⟩ := h.t4
  obtain ⟨c5, e5, d5⟩ := h.t5
  obtain ⟨c6, e6, d6⟩ := h.t6
  exact ⟨⟨c4, (hk _ (by omega) (by omega)).trans e4, d4⟩, ⟨c5, (hk _ (by omega) (by omega)).trans e5, d5⟩, ⟨c6, (hk _ (by omega) (by omega)).trans e6, d6⟩⟩

theorem Tab.step {B : Nat} {W : World} {own : Nat → Option Obs} {ix : Nat → Nat → Int} (h : Tab B W own ix) {q m : Nat} (hq : q < 3) (hm : m < 4) {o : Obs} (ho : o.st = (m : Int)) (i : Int) : Tab B (stored W B q m i) (upd own q o) (updix ix q m i) := by
  obtain ⟨c4, e4, d4⟩ := h.t4
  obtain ⟨c5, e5, d5⟩ := h.t5
  obtain ⟨c6, e6, d6⟩ := h.t6
  refine ⟨⟨c4.setIfInBounds q (.bool true), ?_, fun r hr => ?_⟩, ⟨c5.setIfInBounds q (.int .u64 (m : Int)), ?_, fun r hr => ?_⟩, ⟨c6.setIfInBounds (q * 4 + m) (.int .i64 i), ?_, fun r k hr hk => ?_⟩⟩
  · unfold stored
    rw [Below.heap_setCell _ _ _ _ (by show B + 4 ≠ B + 6; omega), Below.heap_setCell _ _ _ _ (by show B + 4 ≠ B + 5; omega)]
    exact heap_set e4
  · rw [Array.getElem?_setIfInBounds]
    have hl : q < c4.size := (Array.getElem?_eq_some_iff.1 (d4 q hq)).1
    by_cases hr' : q = r
    · subst hr'; simp [hl, upd_same]
    · rw [if_neg hr', upd_other own _ (Ne.symm hr')]; exact d4 r hr
  · unfold stored
    rw [Below.heap_setCell _ _ _ _ (by show B + 5 ≠ B + 6; omega)]
    exact heap_set (by rw [Below.heap_setCell _ _ _ _ (by show B + 5 ≠ B + 4; omega)]; exact e5)
  · rw [Array.getElem?_setIfInBounds]
    have hl : q < c5.size := (Array.getElem?_eq_some_iff.1 (d5 q hq)).1
    by_cases hr' : q = r
    · subst hr'; simp [hl, upd_same, ho]
    · rw [if_neg hr', upd_other own _ (Ne.symm hr')]; exact d5 r hr
  · unfold stored
    exact heap_set (by rw [Below.heap_setCell _ _ _ _ (by show B + 6 ≠ B + 5; omega), Below.heap_setCell _ _ _ _ (by show B + 6 ≠ B + 4; omega)]; exact e6)
  · rw [Array.getElem?_setIfInBounds]
    have hl : q * 4 + m < c6.size := (Array.getElem?_eq_some_iff.1 (d6 q m hq hm)).1
    unfold updix
    by_cases hr' : r = q ∧ k = m
    · obtain ⟨rfl, rfl⟩ := hr'
      simp [hl]
    · rw [if_neg (by omega), if_neg hr']; exact d6 r k hr hk

/-- The whole state behind i steps. -/
def All (B : Nat) (w0 : World) (ss : List Step) (i : Nat) (W : World) : Prop := ∃ rv wv rl es own ix, Core B w0 ss i W rv wv rl es own ∧ Tab B W own ix ∧ Tie ss i own ix

theorem all_step {B : Nat} {w0 : World} {ss : List Step} {i : Nat} {W w' : World} {own : Nat → Option Obs} {ix : Nat → Nat → Int} {q m : Nat} {s : Step} (ht : Tab B W own ix) (hi : Tie ss i own ix) (hs : ss[i]? = some s) (hq : q < 3) (hm : m < 4) (hw : Went B w0 ss i W own q m s w') :
    All B w0 ss (i + 1) (stored w' B q m i) := by
  obtain ⟨rv', wv', rl', es', o, hc, h1, h2, hk⟩ := hw
  have ht' := ht.moved hk
  refine ⟨rv', wv', rl', es', upd own q o, updix ix q m i, hc.moved rfl rfl rfl ?_ (stored_kept w' B q m i) ht'.not5, ht'.step hq hm h1 i, hi.step hs hm h2⟩
  unfold stored
  simp [World.setCell]
end Go.Proofs.Ybulklay
