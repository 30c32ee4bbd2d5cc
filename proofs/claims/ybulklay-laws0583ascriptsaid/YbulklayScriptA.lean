import Derived.Test.YbulklayScript
namespace Go.Proofs.Ybulklay
open Go.RowKit
open Go.ChangeMaps (setBlock)

/-- One step of the script, as it came in. -/
structure Step where
  p : Int
  n : Int
  a : Option Addr
  c : Nat
  z : List Int
def Step.val (s : Step) : Value := .slice s.a s.z.length s.c
/-- What is kept of one proto: the two blocks, the last number, the values. -/
structure Obs where
  oB : Nat
  vB : Nat
  st : Int
  vs : Es
def upd (own : Nat → Option Obs) (q : Nat) (o : Obs) : Nat → Option Obs := fun r => if r = q then some o else own r
theorem upd_same (own : Nat → Option Obs) (q : Nat) (o : Obs) : upd own q o q = some o := by simp [upd]
theorem upd_other (own : Nat → Option Obs) {q r : Nat} (o : Obs) (h : r ≠ q) : upd own q o r = own r := by simp [upd, h]
/-- A step's record: its place among the records. -/
def RecAt (W : World) (v : Value) (s : Step) : Prop :=
  ∃ g cap cur, v = .slice (some ⟨g, 0, none⟩) (10 + s.z.length) cap ∧ RowIn W (some ⟨g, 0, none⟩) cap (recOf (s.p % 3) (s.n % 4) s.z) ∧ W.heap[g]? = some (.cells cur 5 (0, 0))
structure Ob (B : Nat) (W : World) (o : Obs) : Prop where
  ob : W.heap[o.oB]? = some (.cells #[.int .u64 o.st, .int .u64 0, .int .u64 1, .map (some o.vB)] 45 (0, 0))
  vb : W.heap[o.vB]? = some (mobj .u64 o.vs)
  lo : B + 7 ≤ o.oB
  lv : B + 7 ≤ o.vB

/-- The world behind i steps, the law's own three tables aside. -/
structure Core (B : Nat) (w0 : World) (ss : List Step) (i : Nat) (W : World) (rv wv : Value) (rl : List Value) (es : Es) (own : Nat → Option Obs) : Prop where
  bel : Below B w0 W
  recs : W.heap[B]? = some (.cells #[rv] 54 (0, 0))
  rrow : W.ownsRow (B + 7) 23 1 rv i rl
  rok : ∀ j, j < i → ∃ v s, rl[j]? = some v ∧ ss[j]? = some s ∧ RecAt W v s
  whens : W.heap[B + 1]? = some (.cells #[wv] 55 (0, 0))
  wrow : W.ownsRow (B + 7) 24 1 wv i (List.replicate i (.string due))
  ownm : W.heap[B + 2]? = some (mobj .u8 es)
  map : W.cell? ⟨B + 3, 39, none⟩ = some (.map (some (B + 2)))
  fn : W.cell? ⟨B + 3, 48, none⟩ = some (clos B)
  keys : ∀ q : Nat, get es (q : Int) = (own q).map (fun o => .pointer (some ⟨o.oB, 0, none⟩))
  obs : ∀ q o, own q = some o → Ob B W o
  apart : ∀ q r o o', q ≠ r → own q = some o → own r = some o' → o.oB ≠ o'.oB ∧ o.vB ≠ o'.vB
  size : B + 7 ≤ W.heap.size

theorem RecAt.moved {W W' : World} {v : Value} {s : Step} (h : RecAt W v s) (hk : ∀ (g : Nat) (cur : Array Value), W.heap[g]? = some (.cells cur 5 (0, 0)) → W'.heap[g]? = W.heap[g]?) : RecAt W' v s := by
  obtain ⟨g, cap, cur, e, hr, hg⟩ := h
  refine ⟨g, cap, cur, e, hr.moved fun a ha _ => ?_, (hk g cur hg).trans hg⟩
  simp only [Option.some.injEq] at ha
  subst ha
  exact hk g cur hg

/-- A proto that was not there: 'owned' lays its record. -/
theorem Core.new {B : Nat} {w0 : World} {ss : List Step} {i : Nat} {W : World} {rv wv : Value} {rl : List Value} {es : Es} {own : Nat → Option Obs} (h : Core B w0 ss i W rv wv rl es own) (q : Nat) (hq : own q = none) :
    Core B w0 ss i (ownedNew W (B + 2) es q) rv wv rl (put es q (.pointer (some ⟨W.heap.size + 1, 0, none⟩))) (upd own q ⟨W.heap.size + 1, W.heap.size, 0, []⟩) ∧
      ∀ k, B + 3 ≤ k → k < B + 7 → (ownedNew W (B + 2) es q).heap[k]? = W.heap[k]? := by
  have hs := h.size
  have kk : ∀ k, k < W.heap.size → k ≠ B + 2 → (ownedNew W (B + 2) es q).heap[k]? = W.heap[k]? := by
    intro k hk hne
    unfold ownedNew
    rw [setBlock_other hne, Below.heap_alloc _ _ _ (by simp; omega), Below.heap_alloc _ _ _ hk]
  have sz : (ownedNew W (B + 2) es q).heap.size = W.heap.size + 1 + 1 := by unfold ownedNew; rw [setBlock_size]; simp
  have hb : Below B W (ownedNew W (B + 2) es q) := ⟨rfl, rfl, rfl, by omega, fun k hk => kk k (by omega) (by omega)⟩
  have hg : W.grownBy (ownedNew W (B + 2) es q) (some (B + 2)) := ⟨rfl, rfl, rfl, by omega, fun k hk hne => kk k hk (fun e => hne (by rw [e]))⟩
  have hlt : ∀ {k : Nat} {o : Obj}, W.heap[k]? = some o → k < W.heap.size := fun e => (Array.getElem?_eq_some_iff.1 e).1
  refine ⟨⟨h.bel.trans hb, (kk _ (by omega) (by omega)).trans h.recs, h.rrow.kept hg ?_, ?_, (kk _ (by omega) (by omega)).trans h.whens, h.wrow.kept hg ?_, ?_, ?_, ?_, ?_, ?_, ?_, by omega⟩, fun k h1 h2 => kk k (by omega) (by omega)⟩
  · exact .inr fun e => by have := (ownsRow_ty h.rrow _ e).1; omega
  · intro j hj
    obtain ⟨v, s, e1, e2, e3⟩ := h.rok j hj
    refine ⟨v, s, e1, e2, e3.moved fun g cur hgc => kk g (hlt hgc) fun e => ?_⟩
    rw [e, h.ownm] at hgc
    cases hgc
  · exact .inr fun e => by have := (ownsRow_ty h.wrow _ e).1; omega
  · unfold ownedNew
    exact setBlock_at (by simp; omega)
  · exact (World.cell?_of_block (a := ⟨B + 3, 39, none⟩) (kk (B + 3) (by omega) (by omega))).trans h.map
  · exact (World.cell?_of_block (a := ⟨B + 3, 48, none⟩) (kk (B + 3) (by omega) (by omega))).trans h.fn
  · intro r
    rw [get_put]
    by_cases hr : r = q
    · subst hr
      rw [if_pos rfl, upd_same]
      rfl
    · rw [if_neg (by omega), upd_other own _ hr]
      exact h.keys r
  · intro r o ho
    by_cases hr : r = q
    · subst hr
      rw [upd_same] at ho
      cases ho
      have s1 : (W.alloc (.map #[] 0)).heap.size = W.heap.size + 1 := by simp
      refine ⟨?_, ?_, by show B + 7 ≤ W.heap.size + 1; omega, hs⟩
      · unfold ownedNew
        show (setBlock _ _ _).heap[W.heap.size + 1]? = _
        rw [setBlock_other (by omega), ← s1]
        exact heap_alloc_new _ _
      · unfold ownedNew
        show (setBlock _ _ _).heap[W.heap.size]? = _
        rw [setBlock_other (by omega), Below.heap_alloc _ _ _ (by omega)]
        exact heap_alloc_new _ _
    · rw [upd_other own _ hr] at ho
      have hO := h.obs r o ho
      have := hO.lo
      have := hO.lv
      exact ⟨(kk _ (hlt hO.ob) (by omega)).trans hO.ob, (kk _ (hlt hO.vb) (by omega)).trans hO.vb, hO.lo, hO.lv⟩
  · intro a b oa ob hab ha hb
    by_cases h1 : a = q
    · subst h1
      rw [upd_same] at ha
      rw [upd_other own _ (Ne.symm hab)] at hb
      cases ha
      have hO := h.obs b ob hb
      have l1 := hlt hO.ob
      have l2 := hlt hO.vb
      show W.heap.size + 1 ≠ ob.oB ∧ W.heap.size ≠ ob.vB
      omega
    · rw [upd_other own _ h1] at ha
      have hO := h.obs a oa ha
      have l1 := hlt hO.ob
      have l2 := hlt hO.vb
      by_cases h2 : b = q
      · subst h2
        rw [upd_same] at hb
        cases hb
        show oa.oB ≠ W.heap.size + 1 ∧ oa.vB ≠ W.heap.size
        omega
      · rw [upd_other own _ h2] at hb
        exact h.apart a b oa ob hab ha hb

/-- Started's writes and the record's handing on, from a world in which the proto's record is there. -/
theorem Core.step {B : Nat} {w0 : World} {ss : List Step} {i : Nat} {W Wm w' : World} {rv wv rv' wv' v : Value} {rl : List Value} {es : Es} {own : Nat → Option Obs} (h : Core B w0 ss i W rv wv rl es own) {q : Nat} {m : Int} {o : Obs} {s : Step} (ho : own q = some o)
    (hs : ss[i]? = some s) (hq : (q : Int) = s.p % 3) (hm : m = s.n % 4) (mid : Mid W Wm v o.oB o.vB 0 1 o.vs q m s.a s.c s.z) (hwf : ∀ z ∈ s.z, 0 ≤ z ∧ z < 256) (hq3 : q < 3) (em : Emit B i rv wv rl (List.replicate i (.string due)) v rv' wv' Wm w') :
    Core B w0 ss (i + 1) w' rv' wv' (rl ++ [v]) es (upd own q ⟨o.oB, o.vB, m, put o.vs m s.val⟩) ∧ ∀ k, B + 3 ≤ k → k < B + 7 → w'.heap[k]? = W.heap[k]? := by
  have hO := h.obs q o ho
  have hlo := hO.lo
  have hlv := hO.lv
  have hsz := h.size
  have msz := mid.size
  have esz := em.size
  have hlt : ∀ {W : World} {k : Nat} {o : Obj}, W.heap[k]? = some o → k < W.heap.size := fun e => (Array.getElem?_eq_some_iff.1 e).1
  have rty := fun k hk => ownsRow_ty h.rrow k hk
  have wty := fun k hk => ownsRow_ty h.wrow k hk
  have kk : ∀ k, k < W.heap.size → k ≠ o.oB → k ≠ o.vB → k ≠ B → k ≠ B + 1 → some k ≠ rv.ownBlock → some k ≠ wv.ownBlock → w'.heap[k]? = W.heap[k]? := fun k hk h1 h2 h3 h4 h5 h6 =>
    (em.kept k (by omega) h3 h4 h5 h6).trans (mid.kept k hk h1 h2)
  have klow : ∀ k, k < B + 7 → k ≠ B → k ≠ B + 1 → w'.heap[k]? = W.heap[k]? := fun k hk h1 h2 => kk k (by omega) (by omega) (by omega) h1 h2
    (fun e => by have := (rty k e.symm).1; omega) (fun e => by have := (wty k e.symm).1; omega)
  have hrow := row_rec mid.row (rec_wf q m s.z (by omega) (by omega) (by omega) (by omega) hwf)
  refine ⟨⟨h.bel.trans ⟨em.os.trans mid.os, em.tape.trans mid.tape, em.output.trans mid.output, by omega, fun k hk => klow k (by omega) (by omega) (by omega)⟩, em.recs, em.rrow, ?_, em.whens, ?_, (klow _ (by omega) (by omega) (by omega)).trans h.ownm, ?_, ?_, ?_, ?_, ?_, by omega⟩, fun k h1 h2 => klow k h2 (by omega) (by omega)⟩
  · intro j hj
    have hrl : rl.length = i := by have := h.rrow.1; omega
    by_cases hji : j < i
    · obtain ⟨u, t, e1, e2, e3⟩ := h.rok j hji
      refine ⟨u, t, ?_, e2, e3.moved fun g cur hg => kk g (hlt hg) ?_ ?_ ?_ ?_ ?_ ?_⟩
      · rw [List.getElem?_append_left (by omega)]; exact e1
      · intro e; rw [e, hO.ob] at hg; cases hg
      · intro e; rw [e, hO.vb] at hg; cases hg
      · intro e; rw [e, h.recs] at hg; cases hg
      · intro e; rw [e, h.whens] at hg; cases hg
      · intro e
        obtain ⟨_, c, hc⟩ := rty g e.symm
        rw [hc] at hg; cases hg
      · intro e
        obtain ⟨_, c, hc⟩ := wty g e.symm
        rw [hc] at hg; cases hg
    · obtain rfl : j = i := by omega
      refine ⟨v, s, ?_, hs, ?_⟩
      · rw [List.getElem?_append_right (by omega), hrl]; simp
      · obtain ⟨g, cap, rfl, hg1, hg2, hr⟩ := hrow
        have hkg : w'.heap[g]? = Wm.heap[g]? := em.kept g hg2 (by omega) (by omega)
          (fun e => by obtain ⟨_, c, hc⟩ := rty g e.symm; have := hlt hc; omega) (fun e => by obtain ⟨_, c, hc⟩ := wty g e.symm; have := hlt hc; omega)
        obtain ⟨_, cur, hcur⟩ := ownsRow_ty mid.row g rfl
        rw [hq, hm] at hr
        refine ⟨g, cap, cur, rfl, hr.moved fun a ha _ => ?_, hkg.trans hcur⟩
        simp only [Option.some.injEq] at ha
        subst ha
        exact hkg
  · rw [List.replicate_succ']; exact em.wrow
  · exact (World.cell?_of_block (a := ⟨B + 3, 39, none⟩) (klow (B + 3) (by omega) (by omega) (by omega))).trans h.map
  · exact (World.cell?_of_block (a := ⟨B + 3, 48, none⟩) (klow (B + 3) (by omega) (by omega) (by omega))).trans h.fn
  · intro r
    rw [h.keys r]
    by_cases hr : r = q
    · subst hr
      rw [upd_same, ho]
      rfl
    · rw [upd_other own _ hr]
  · have kt : ∀ {k : Nat} {ob : Obj}, Wm.heap[k]? = some ob → k < W.heap.size → B + 7 ≤ k → (∀ cur, ob ≠ .cells cur 23 (0, 0)) → (∀ cur, ob ≠ .cells cur 24 (0, 0)) → (∀ c, W.heap[k]? = some (.cells c 23 (0, 0)) → ∃ c, ob = .cells c 23 (0, 0)) → (∀ c, W.heap[k]? = some (.cells c 24 (0, 0)) → ∃ c, ob = .cells c 24 (0, 0)) → w'.heap[k]? = some ob := by
      intro k ob hk hk0 hk1 h23 h24 g23 g24
      rw [em.kept k (by omega) (by omega) (by omega) (fun e => ?_) (fun e => ?_)]
      · exact hk
      · obtain ⟨_, c, hc⟩ := rty k e.symm
        obtain ⟨c', e'⟩ := g23 c hc
        exact h23 c' e'
      · obtain ⟨_, c, hc⟩ := wty k e.symm
        obtain ⟨c', e'⟩ := g24 c hc
        exact h24 c' e'
    intro r o2 ho2
    by_cases hr : r = q
    · subst hr
      rw [upd_same] at ho2
      cases ho2
      refine ⟨kt mid.ob (hlt hO.ob) hlo (fun _ => by intro e; cases e) (fun _ => by intro e; cases e) (fun c e => ?_) (fun c e => ?_), kt mid.vb (hlt hO.vb) hlv (fun _ => by intro e; cases e) (fun _ => by intro e; cases e) (fun c e => ?_) (fun c e => ?_), hlo, hlv⟩
      · rw [hO.ob] at e; cases e
      · rw [hO.ob] at e; cases e
      · rw [hO.vb] at e; cases e
      · rw [hO.vb] at e; cases e
    · rw [upd_other own _ hr] at ho2
      have hP := h.obs r o2 ho2
      have hap := h.apart r q o2 o hr ho2 ho
      have lo2 := hP.lo
      have lv2 := hP.lv
      refine ⟨(kk _ (hlt hP.ob) hap.1 ?_ (by omega) (by omega) ?_ ?_).trans hP.ob, (kk _ (hlt hP.vb) ?_ hap.2 (by omega) (by omega) ?_ ?_).trans hP.vb, hP.lo, hP.lv⟩
      · intro e; have := hP.ob; rw [e, hO.vb] at this; cases this
      · intro e
        obtain ⟨_, c, hc⟩ := rty _ e.symm
        rw [hP.ob] at hc; cases hc
      · intro e
        obtain ⟨_, c, hc⟩ := wty _ e.symm
        rw [hP.ob] at hc; cases hc
      · intro e; have := hP.vb; rw [e, hO.ob] at this; cases this
      · intro e
        obtain ⟨_, c, hc⟩ := rty _ e.symm
        rw [hP.vb] at hc; cases hc
      · intro e
        obtain ⟨_, c, hc⟩ := wty _ e.symm
        rw [hP.vb] at hc; cases hc
  · intro a b oa ob hab ha hb
    have red : ∀ r o2, upd own q ⟨o.oB, o.vB, m, put o.vs m s.val⟩ r = some o2 → ∃ o3, own r = some o3 ∧ o3.oB = o2.oB ∧ o3.vB = o2.vB := by
      intro r o2 h2
      by_cases hr : r = q
      · subst hr
        rw [upd_same] at h2
        cases h2
        exact ⟨o, ho, rfl, rfl⟩
      · rw [upd_other own _ hr] at h2
        exact ⟨o2, h2, rfl, rfl⟩
    obtain ⟨o3, a1, a2, a3⟩ := red a oa ha
    obtain ⟨o4, b1, b2, b3⟩ := red b ob hb
    rw [← a2, ← a3, ← b2, ← b3]
    exact h.apart a b o3 o4 hab a1 b1

theorem ownsRow_moved {w w' : World} {base n : Nat} {e : TypeId} {v : Value} {xs : List Value} (h : w.ownsRow base e 1 v n xs) (hk : ∀ k, v.ownBlock = some k → w'.heap[k]? = w.heap[k]?) : w'.ownsRow base e 1 v n xs := by
  refine ⟨h.1, ?_⟩
  rcases h.2 with h0 | ⟨g, cap, cur, rfl, hb, hh, h3⟩
  · exact .inl h0
  · exact .inr ⟨g, cap, cur, rfl, hb, (hk g rfl).trans hh, h3⟩
theorem upd_upd (own : Nat → Option Obs) (q : Nat) (o o' : Obs) : upd (upd own q o) q o' = upd own q o' := by
  funext r
  unfold upd
  split <;> rfl

/-- What Started leaves. -/
def Went (B : Nat) (w0 : World) (ss : List Step) (i : Nat) (W : World) (own : Nat → Option Obs) (q m : Nat) (s : Step) (w' : World) : Prop :=
  ∃ rv' wv' rl' es' o, Core B w0 ss (i + 1) w' rv' wv' rl' es' (upd own q o) ∧ o.st = (m : Int) ∧ o.vs = put ((own q).elim [] (·.vs)) m s.val ∧ ∀ k, B + 3 ≤ k → k < B + 7 → w'.heap[k]? = W.heap[k]?

/-- Started, from the world behind 'owned'. -/
theorem script_from {B : Nat} {w0 : World} {ss : List Step} {i : Nat} {W W1 : World} {rv wv : Value} {rl : List Value} {es : Es} {own : Nat → Option Obs} (h : Core B w0 ss i W1 rv wv rl es own) {q m : Nat} {s : Step} {o : Obs} (ho : own q = some o)
    (hown : Calls Yba.prog 11 #[.pointer (some ⟨B + 3, 0, none⟩), .int .u8 q] W fun e w' => e = .returned (.pointer (some ⟨o.oB, 0, none⟩)) ∧ w' = W1)
    (hs : ss[i]? = some s) (hq : (q : Int) = s.p % 3) (hm : (m : Int) = s.n % 4) (hrow : RowIn w0 s.a s.c s.z) (hav : ∀ g, s.a = some g → 0 < s.z.length → g.block < B) (hi : i ≤ 1000) (hl : s.z.length ≤ 1000000) :
    Calls Yba.prog 7 #[.pointer (some ⟨B + 3, 0, none⟩), .int .u8 q, .int .u64 m, s.val] W fun e w' => e = .returned (.tuple #[]) ∧
      ∃ rv' wv' rl' es', Core B w0 ss (i + 1) w' rv' wv' rl' es' (upd own q ⟨o.oB, o.vB, m, put o.vs m s.val⟩) ∧ ∀ k, B + 3 ≤ k → k < B + 7 → w'.heap[k]? = W1.heap[k]? := by
  have hO := h.obs q o ho
  have hlo := hO.lo
  have hlv := hO.lv
  have hsz := h.size
  have hlt : ∀ {W : World} {k : Nat} {o : Obj}, W.heap[k]? = some o → k < W.heap.size := fun e => (Array.getElem?_eq_some_iff.1 e).1
  have hwf := rec_wf q m s.z (by omega) (by omega) (by omega) (by omega) hrow.wf
  refine (started_calls (fun v Wm w' => ∃ rv' wv', Emit B i rv wv rl (List.replicate i (.string due)) v rv' wv' Wm w') (B + 3) o.oB o.vB o.st 0 1 q m o.vs s.a s.c s.z W W1 hown hO.ob hO.vb (hrow.moved fun g hg hn => h.bel.block _ (hav g hg hn))
    (fun g hg hn => by have := hav g hg hn; omega) (by omega) (by omega) hl (fun v Wm mid => ?_)).mono ?_
  · obtain ⟨g, cap, rfl, _, _, _⟩ := row_rec mid.row hwf
    have kl : ∀ k, k < B + 7 → Wm.heap[k]? = W1.heap[k]? := fun k hk => mid.kept k (by omega) (by omega) (by omega)
    have msz := mid.size
    refine emit_script B i g _ cap rv wv rl _ Wm hi ((kl _ (by omega)).trans h.recs) (ownsRow_moved h.rrow fun k hk => ?_) ((kl _ (by omega)).trans h.whens) (ownsRow_moved h.wrow fun k hk => ?_) (by omega)
      ((World.cell?_of_block (a := ⟨B + 3, 48, none⟩) (kl (B + 3) (by omega))).trans h.fn)
    · obtain ⟨_, c, hc⟩ := ownsRow_ty h.rrow k hk
      refine mid.kept k (hlt hc) (fun e => ?_) (fun e => ?_)
      · rw [e, hO.ob] at hc; cases hc
      · rw [e, hO.vb] at hc; cases hc
    · obtain ⟨_, c, hc⟩ := ownsRow_ty h.wrow k hk
      refine mid.kept k (hlt hc) (fun e => ?_) (fun e => ?_)
      · rw [e, hO.ob] at hc; cases hc
      · rw [e, hO.vb] at hc; cases hc
  · rintro e w' ⟨rfl, v, Wm, mid, rv', wv', em⟩
    obtain ⟨hc, hk⟩ := h.step ho hs hq hm mid hrow.wf (by omega) em
    exact ⟨rfl, rv', wv', _, es, hc, hk⟩

theorem script_started {B : Nat} {w0 : World} {ss : List Step} {i : Nat} {W : World} {rv wv : Value} {rl : List Value} {es : Es} {own : Nat → Option Obs} (h : Core B w0 ss i W rv wv rl es own) {q m : Nat} {s : Step}
    (hs : ss[i]? = some s) (hq : (q : Int) = s.p % 3) (hm : (m : Int) = s.n % 4) (hrow : RowIn w0 s.a s.c s.z) (hav : ∀ g, s.a = some g → 0 < s.z.length → g.block < B) (hi : i ≤ 1000) (hl : s.z.length ≤ 1000000) :
    Calls Yba.prog 7 #[.pointer (some ⟨B + 3, 0, none⟩), .int .u8 q, .int .u64 m, s.val] W fun e w' => e = .returned (.tuple #[]) ∧ Went B w0 ss i W own q m s w' := by
  cases ho : own q with
  | some o =>
    have hg : get es (q : Int) = some (.pointer (some ⟨o.oB, 0, none⟩)) := by rw [h.keys q, ho]; rfl
    refine (script_from h ho ((owned_there (B + 3) (B + 2) es q _ _ W rfl h.map h.ownm hg).mono fun e w' ⟨h1, h2⟩ => ⟨h1, h2.symm⟩) hs hq hm hrow hav hi hl).mono ?_
    rintro e w' ⟨rfl, rv', wv', rl', es', hc, hk⟩
    exact ⟨rfl, rv', wv', rl', es', _, hc, rfl, by rw [ho]; rfl, hk⟩
  | none =>
    have hg : get es (q : Int) = none := by rw [h.keys q, ho]; rfl
    obtain ⟨hc1, hk1⟩ := h.new q ho
    refine (script_from hc1 (upd_same own q _) (owned_new (B + 3) (B + 2) es q W h.map h.ownm hg) hs hq hm hrow hav hi hl).mono ?_
    rintro e w' ⟨rfl, rv', wv', rl', es', hc, hk⟩
    rw [upd_upd] at hc
    exact ⟨rfl, rv', wv', rl', es', _, hc, rfl, by rw [ho]; rfl, fun k h1 h2 => (hk k h1 h2).trans (hk1 k h1 h2)⟩
end Go.Proofs.Ybulklay
