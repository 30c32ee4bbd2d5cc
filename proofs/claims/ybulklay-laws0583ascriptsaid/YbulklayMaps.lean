import Derived.Test.YbulklayRows
import Derived.WalkKit
import Derived.WalkSpells
import Derived.Below
import Derived.Maps.Keyed
namespace Go.Proofs.Ybulklay
set_option linter.unusedSimpArgs false
open Go.RowKit Go.MapKept
open Go.ChangeMaps (setBlock)

theorem hid {p : Prop} (h : p) : Hid p := h

/-! ### A map keyed by integers of one kind, nothing struck: its entries in the order of their coming. -/
abbrev Es := List (Int × Value)
def ents (k : IntKind) : Es → Nat → List MapEntry
  | [], _ => []
  | p :: r, i => { key := .int k p.1, val := p.2, born := i } :: ents k r (i + 1)
def mobj (k : IntKind) (es : Es) : Obj := .map (ents k es 0).toArray es.length
def look : Es → Int → Nat → Option (Nat × Value)
  | [], _, _ => none
  | p :: r, x, i => if x == p.1 then some (i, p.2) else look r x (i + 1)
def get (es : Es) (x : Int) : Option Value := (look es x 0).map (·.2)
def put : Es → Int → Value → Es
  | [], x, v => [(x, v)]
  | p :: r, x, v => if x == p.1 then (p.1, v) :: r else p :: put r x v

theorem ents_length (k : IntKind) : ∀ (es : Es) (i : Nat), (ents k es i).length = es.length
  | [], _ => rfl
  | _ :: r, i => by simp [ents, ents_length k r (i + 1)]
theorem findNow_ents (k q : IntKind) (x : Int) : ∀ (es : Es) (i : Nat), Instr.findNow (.int q) (.int k x) (ents k es i) i = some (look es x i)
  | [], _ => rfl
  | p :: r, i => by
    unfold ents Instr.findNow look
    simp only [Instr.sameNow, if_true]
    cases h : (x == p.1)
    · simp only [findNow_ents k q x r (i + 1)]
      rfl
    · rfl
theorem run_find {P : Program} {K : TypeId} {k : IntKind} (hK : P.underlying K = some (.int k)) (x : Int) (es : Es) (w : World) : (Instr.findKey K (.int k x) (ents k es 0)).run P w = .ok (look es x 0) w := by
  simp [Instr.findKey, run_underlying hK, findNow_ents, Result.andThen]
theorem run_check {P : Program} {K : TypeId} {k : IntKind} (hK : P.underlying K = some (.int k)) (x : Int) (em : Bool) (w : World) : (Instr.checkKey em 10000 K (.int k x)).run P w = .ok () w :=
  run_checkKey (d := .int k) hK (show IsKey (.int k) (.int k x) from rfl) em 9999
theorem run_get {P : Program} {w : World} {b : Nat} {es : Array MapEntry} {clock : Nat} (hb : w.heap[b]? = some (.map es clock)) : (getObj b).run P w = .ok (.map es clock) w := by simp [getObj, Sem.run, hb]
theorem run_set {P : Program} {w : World} {b : Nat} {es : Array MapEntry} {clock : Nat} (o : Obj) (hb : w.heap[b]? = some (.map es clock)) : (setObj b o).run P w = .ok () (setBlock w b o) := by simp [setObj, Sem.run, hb, setBlock]
theorem run_stays {P : Program} {w : World} {k : IntKind} (x : Int) : (Instr.keyThatStays (.int k x) (.int k x)).run P w = .ok (.int k x) w := by
  simp [Instr.keyThatStays, Instr.sameBits]

theorem run_look {P : Program} {T K E : TypeId} {k : IntKind} (hT : P.underlying T = some (.map K E)) (hK : P.underlying K = some (.int k)) {w : World} {b : Nat} {es : Es} (hb : w.heap[b]? = some (mobj k es)) (x : Int) {z : Value} (hz : (zeroValue E).run P w = .ok z w) (c : Bool) :
    (Instr.lookup T (.map (some b)) (.int k x) c).run P w = .ok (if c then .tuple #[(get es x).getD z, .bool (get es x).isSome] else (get es x).getD z) w := by
  have h1 := run_get (P := P) (w := w) (b := b) (es := (ents k es 0).toArray) (clock := es.length) hb
  unfold get
  cases hl : look es x 0 with
  | none => simp [Instr.lookup, run_underlying hT, h1, run_check hK, run_find hK, Result.andThen, hl, hz]
  | some p => simp [Instr.lookup, run_underlying hT, h1, run_check hK, run_find hK, Result.andThen, hl]

/-- A present key: its index and its place. -/
theorem modify_ents (k : IntKind) (x : Int) (u : Value) : ∀ (es : Es) (j i : Nat) (v : Value), look es x j = some (i, v) →
    j ≤ i ∧ (ents k es j).modify (i - j) (fun e => { e with key := .int k x, val := u }) = ents k (put es x u) j ∧ (ents k es j).modify (i - j) (fun e => { e with key := .int k x }) = ents k es j ∧
      (ents k es j)[i - j]? = some { key := .int k x, val := v, born := i } ∧ (∀ e ∈ (ents k es j).take (i - j), e.born ≠ i) ∧ (ents k es j).modify (i - j) (fun e => { e with val := u }) = ents k (put es x u) j
  | [], _, _, _, h => by cases h
  | p :: r, j, i, v, h => by
    unfold look at h
    cases hx : (x == p.1)
    · rw [hx] at h
      obtain ⟨h1, h2, h3, h4, h5, h6⟩ := modify_ents k x u r (j + 1) i v (by simpa using h)
      obtain ⟨d, hd⟩ : ∃ d, i - j = d + 1 := ⟨i - j - 1, by omega⟩
      have hd' : i - (j + 1) = d := by omega
      rw [hd'] at h2 h3 h4 h5 h6
      rw [hd]
      refine ⟨by omega, ?_, ?_, ?_, ?_, ?_⟩
      · simp [ents, put, hx, h2]
      · simp [ents, h3]
      · simpa [ents] using h4
      · intro e he
        simp [ents] at he
        rcases he with rfl | he
        · show j ≠ i
          omega
        · exact h5 e he
      · simp [ents, put, hx, h6]
    · rw [hx] at h
      simp at h
      obtain ⟨rfl, rfl⟩ := h
      have e := beq_iff_eq.1 hx
      subst e
      simp [ents, put]
theorem put_none (u : Value) (x : Int) : ∀ (es : Es) (j : Nat), look es x j = none → put es x u = es ++ [(x, u)]
  | [], _, _ => rfl
  | p :: r, j, h => by
    unfold look at h
    cases hx : (x == p.1)
    · rw [hx] at h
      simp [put, hx, put_none u x r (j + 1) (by simpa using h)]
    · rw [hx] at h; simp at h
theorem ents_snoc (k : IntKind) (x : Int) (u : Value) : ∀ (es : Es) (j : Nat), ents k (es ++ [(x, u)]) j = ents k es j ++ [{ key := .int k x, val := u, born := j + es.length }]
  | [], j => by simp [ents]
  | p :: r, j => by simp [ents, ents_snoc k x u r (j + 1)]; omega
theorem put_length_some (u : Value) (x : Int) : ∀ (es : Es) (j : Nat) (p : Nat × Value), look es x j = some p → (put es x u).length = es.length
  | [], _, _, h => by cases h
  | q :: r, j, p, h => by
    unfold look at h
    cases hx : (x == q.1)
    · rw [hx] at h
      simp [put, hx, put_length_some u x r (j + 1) p (by simpa using h)]
    · simp [put, hx]

theorem toArray_modify {α : Type} (l : List α) (i : Nat) (f : α → α) : l.toArray.modify i f = (l.modify i f).toArray := by
  apply Array.ext_getElem?
  intro j
  simp [List.getElem?_modify]

theorem run_update {P : Program} {T K E : TypeId} {k : IntKind} (hT : P.underlying T = some (.map K E)) (hK : P.underlying K = some (.int k)) {w : World} {b : Nat} {es : Es} (hb : w.heap[b]? = some (mobj k es)) (x : Int) (u : Value) :
    (Instr.mapUpdate T (.map (some b)) (.int k x) u).run P w = .ok () (setBlock w b (mobj k (put es x u))) := by
  have hb' : w.heap[b]? = some (.map (ents k es 0).toArray es.length) := hb
  have h1 := run_get (P := P) hb'
  cases hl : look es x 0 with
  | none =>
    simp [Instr.mapUpdate, run_underlying hT, h1, run_check hK, run_find hK, Result.andThen, hl, run_set _ hb', setBlock, mobj, put_none u x es 0 hl, ents_snoc]
  | some p =>
    obtain ⟨i, v⟩ := p
    obtain ⟨_, h2, _, h4, _, _⟩ := modify_ents k x u es 0 i v hl
    rw [Nat.sub_zero] at h2 h4
    have h5 := run_stays (P := P) (w := w) (k := k) x
    simp [Instr.mapUpdate, run_underlying hT, h1, run_check hK, run_find hK, Result.andThen, hl, run_set _ hb', setBlock, mobj, h4, h5, toArray_modify, h2, put_length_some u x es 0 _ hl]

/-- What 'mapEntry' leaves: the key is there. -/
def pre (es : Es) (x : Int) (z : Value) : Es := if (look es x 0).isSome then es else es ++ [(x, z)]
def idx (es : Es) (x : Int) : Nat := ((look es x 0).map (·.1)).getD es.length
theorem run_entry {P : Program} {T K E : TypeId} {k : IntKind} (hT : P.underlying T = some (.map K E)) (hK : P.underlying K = some (.int k)) {w : World} {b : Nat} {es : Es} (hb : w.heap[b]? = some (mobj k es)) (x : Int) {z : Value} (hz : (zeroValue E).run P w = .ok z w) :
    (Instr.mapEntry T (.map (some b)) (.int k x)).run P w = .ok (.tuple #[(get es x).getD z, .int .i64 (idx es x)]) (setBlock w b (mobj k (pre es x z))) := by
  have hb' : w.heap[b]? = some (.map (ents k es 0).toArray es.length) := hb
  have h1 := run_get (P := P) hb'
  unfold get pre idx
  cases hl : look es x 0 with
  | none =>
    simp [Instr.mapEntry, run_underlying hT, h1, run_check hK, run_find hK, Result.andThen, hl, run_set _ hb', setBlock, mobj, ents_snoc, hz, goInt]
  | some p =>
    obtain ⟨i, v⟩ := p
    obtain ⟨_, _, h3, h4, _, _⟩ := modify_ents k x z es 0 i v hl
    rw [Nat.sub_zero] at h3 h4
    have h5 := run_stays (P := P) (w := w) (k := k) x
    simp [Instr.mapEntry, run_underlying hT, h1, run_check hK, run_find hK, Result.andThen, hl, run_set _ hb', setBlock, mobj, h4, h5, toArray_modify, h3, goInt]

theorem look_snoc (x : Int) (u : Value) : ∀ (es : Es) (j : Nat), look es x j = none → look (es ++ [(x, u)]) x j = some (j + es.length, u)
  | [], j, _ => by simp [look]
  | p :: r, j, h => by
    unfold look at h
    cases hx : (x == p.1)
    · rw [hx] at h
      have := look_snoc x u r (j + 1) (by simpa using h)
      simp [look, hx, this]; omega
    · rw [hx] at h; simp at h
theorem put_snoc (x : Int) (u z : Value) : ∀ (es : Es) (j : Nat), look es x j = none → put (es ++ [(x, z)]) x u = es ++ [(x, u)]
  | [], _, _ => by simp [put]
  | p :: r, j, h => by
    unfold look at h
    cases hx : (x == p.1)
    · rw [hx] at h
      simp [put, hx, put_snoc x u z r (j + 1) (by simpa using h)]
    · rw [hx] at h; simp at h
theorem put_pre (es : Es) (x : Int) (z u : Value) : put (pre es x z) x u = put es x u := by
  unfold pre
  cases hl : look es x 0 with
  | none => simp [put_snoc x u z es 0 hl, put_none u x es 0 hl]
  | some p => simp
theorem look_pre (es : Es) (x : Int) (z : Value) : ∃ v, look (pre es x z) x 0 = some (idx es x, v) := by
  unfold pre idx
  cases hl : look es x 0 with
  | none => exact ⟨z, by simpa using look_snoc x z es 0 hl⟩
  | some p => exact ⟨p.2, by simpa using hl⟩

theorem run_store {P : Program} {T : TypeId} {k : IntKind} {w : World} {b : Nat} {es : Es} {x : Int} {z : Value} (hb : w.heap[b]? = some (mobj k (pre es x z))) (u : Value) :
    (Instr.entryStore T (.map (some b)) (.int .i64 (idx es x)) u).run P w = .ok () (setBlock w b (mobj k (put es x u))) := by
  obtain ⟨v, hl⟩ := look_pre es x z
  have hb' : w.heap[b]? = some (.map (ents k (pre es x z) 0).toArray (pre es x z).length) := hb
  have h1 := run_get (P := P) hb'
  obtain ⟨_, _, _, h4, h5, h6⟩ := modify_ents k x u (pre es x z) 0 (idx es x) v hl
  rw [Nat.sub_zero] at h4 h5 h6
  have hlen := put_length_some u x _ 0 _ hl
  have hf : (ents k (pre es x z) 0).findIdx? (fun e => (e.born : Int) == ((idx es x : Nat) : Int)) = some (idx es x) := by
    obtain ⟨hi, hg⟩ := List.getElem?_eq_some_iff.1 h4
    rw [List.findIdx?_eq_some_iff_getElem]
    refine ⟨hi, by rw [hg]; simp, fun j hji => ?_⟩
    have hm : (ents k (pre es x z) 0)[j] ∈ (ents k (pre es x z) 0).take (idx es x) := by
      rw [List.mem_take_iff_getElem]
      exact ⟨j, by omega, rfl⟩
    have := h5 _ hm
    simp
    omega
  rw [put_pre] at h6 hlen
  simp [Instr.entryStore, h1, Result.andThen, run_set _ hb', setBlock, mobj, toArray_modify, hf, h6, hlen, asInt, asIntOf]

/-! ### Plain laws of 'put' and 'get' -/
theorem look_get (x : Int) : ∀ (es : Es) (i j : Nat), (look es x i).map (·.2) = (look es x j).map (·.2)
  | [], _, _ => rfl
  | p :: r, i, j => by
    unfold look
    cases h : (x == p.1)
    · simpa using look_get x r (i + 1) (j + 1)
    · rfl
theorem get_nil (x : Int) : get [] x = none := rfl
theorem get_cons (p : Int × Value) (r : Es) (x : Int) : get (p :: r) x = if x == p.1 then some p.2 else get r x := by
  have e : get (p :: r) x = (if x == p.1 then some (0, p.2) else look r x 1).map (·.2) := rfl
  rw [e]
  cases h : (x == p.1)
  · simpa [get] using look_get x r 1 0
  · rfl
theorem get_put (x y : Int) (u : Value) : ∀ es : Es, get (put es x u) y = if y = x then some u else get es y
  | [] => by
    unfold put
    rw [get_cons, get_nil]
    by_cases h : y = x <;> simp [h]
  | p :: r => by
    unfold put
    cases h : (x == p.1)
    · have hne : ¬ x = p.1 := by simpa using h
      simp only [Bool.false_eq_true, if_false]
      rw [get_cons, get_cons, get_put x y u r]
      by_cases hy : y = x
      · subst hy
        simp [h]
      · simp [hy]
    · have e : x = p.1 := by simpa using h
      simp only [if_true]
      rw [get_cons, get_cons]
      by_cases hy : y = x
      · rw [if_pos hy, hy, h]; rfl
      · have : (y == p.1) = false := by simpa [← e] using hy
        simp [hy, this]
theorem put_length (x : Int) (u : Value) : ∀ es : Es, (put es x u).length = es.length + (if (get es x).isSome then 0 else 1)
  | [] => rfl
  | p :: r => by
    unfold put
    rw [get_cons]
    cases h : (x == p.1)
    · simp only [Bool.false_eq_true, if_false, List.length_cons, put_length x u r]
      omega
    · simp
theorem run_mlen {P : Program} {T K E : TypeId} {k : IntKind} (hT : P.underlying T = some (.map K E)) {w : World} {b : Nat} {es : Es} (hb : w.heap[b]? = some (mobj k es)) (ty : TypeId) :
    (Builtin.len_ #[T] ty #[.map (some b)]).run P w = .ok (.int .i64 es.length) w := by
  have h1 := run_get (P := P) (w := w) (b := b) (es := (ents k es 0).toArray) (clock := es.length) hb
  simp [Builtin.len_, run_underlying hT, h1, Result.andThen, ents_length, goInt]
end Go.Proofs.Ybulklay
