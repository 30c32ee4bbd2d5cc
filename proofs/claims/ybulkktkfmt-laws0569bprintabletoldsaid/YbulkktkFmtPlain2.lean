import Derived.Test.YbulkktkFmtPlain
namespace Go.Proofs.YbulkktkFmt.Plain
open Go.Extern

/-- The law's own map onto printable octets. -/
def mI (c : Int) : Int := c % 95 + 32
def mb (c : Int) : UInt8 := ofI (mI c)
def me (c : Int) : List UInt8 := if mI c = 34 ∨ mI c = 92 then [92, mb c] else [mb c]
def bTo (P : Nat → List Int) : Nat → List UInt8
  | 0 => []
  | k + 1 => bTo P k ++ [ofI (P k).length] ++ (P k).map mb
def wTo (P : Nat → List Int) : Nat → List UInt8
  | 0 => []
  | k + 1 => wTo P k ++ (if 0 < k then [32] else []) ++ [34] ++ (P k).flatMap me ++ [34]
def ints (l : List UInt8) : List Int := l.map fun b => (b.toNat : Int)

theorem ints_length (l : List UInt8) : (ints l).length = l.length := by simp [ints]
theorem ints_append (l m : List UInt8) : ints (l ++ m) = ints l ++ ints m := by simp [ints]
theorem ints_wf (l : List UInt8) : ∀ z ∈ ints l, 0 ≤ z ∧ z < 256 := by
  intro z hz
  simp only [ints, List.mem_map] at hz
  obtain ⟨b, _, rfl⟩ := hz
  have := b.toNat_lt
  omega
theorem ofI_nat (c : Int) (h0 : 0 ≤ c) (h1 : c < 256) : ((ofI c).toNat : Int) = c := by
  simp [ofI]; omega
theorem ofI_back (b : UInt8) : ofI (b.toNat : Int) = b := by simp [ofI]
theorem mI_range (c : Int) : 32 ≤ mI c ∧ mI c ≤ 126 := by unfold mI; omega
theorem esc_mb (c : Int) : esc ((mb c).toNat : Int) = me c := by
  have h := mI_range c
  have e : ((mb c).toNat : Int) = mI c := ofI_nat _ (by omega) (by omega)
  rw [e]
  unfold esc me
  by_cases q : mI c = 34 ∨ mI c = 92
  · rw [if_pos q, if_pos q]; rfl
  · rw [if_neg q, if_neg q, if_neg (by omega)]; rfl
theorem flat_mb (l : List Int) : (ints (l.map mb)).flatMap esc = l.flatMap me := by
  induction l with
  | nil => rfl
  | cons c l ih =>
    simp only [ints, List.map_cons, List.flatMap_cons] at ih ⊢
    rw [esc_mb, ih]

theorem wTo_len (P : Nat → List Int) (k : Nat) : (wTo P k).length = 0 ↔ k = 0 := by
  cases k with
  | zero => simp [wTo]
  | succ k => simp [wTo]
theorem sep_wTo (P : Nat → List Int) (k : Nat) : sep (wTo P k) = if 0 < k then [32] else [] := by
  unfold sep
  have := wTo_len P k
  by_cases hk : k = 0
  · rw [if_pos (this.2 hk), if_neg (by omega)]
  · rw [if_neg (fun h => hk (this.1 h)), if_pos (by omega)]
theorem bTo_len (P : Nat → List Int) (hP : ∀ j, (P j).length ≤ 255) (k : Nat) : (bTo P k).length ≤ 256 * k := by
  induction k with
  | zero => simp [bTo]
  | succ k ih =>
    have := hP k
    simp only [bTo, List.length_append, List.length_cons, List.length_nil, List.length_map]
    omega
theorem me_len (l : List Int) : (l.flatMap me).length ≤ 2 * l.length := by
  induction l with
  | nil => simp
  | cons c l ih =>
    have : (me c).length ≤ 2 := by unfold me; split <;> simp
    simp only [List.flatMap_cons, List.length_append, List.length_cons]
    omega
theorem wTo_bound (P : Nat → List Int) (hP : ∀ j, (P j).length ≤ 255) (k : Nat) : (wTo P k).length ≤ 600 * k := by
  induction k with
  | zero => simp [wTo]
  | succ k ih =>
    have h1 := hP k
    have h2 := me_len (P k)
    have h3 : (if 0 < k then [(32 : UInt8)] else []).length ≤ 1 := by split <;> simp
    simp only [wTo, List.length_append, List.length_cons, List.length_nil]
    omega

/-- bTo at k opens bTo at N. -/
theorem bTo_split (P : Nat → List Int) (k : Nat) : ∀ N, k < N → ∃ rest, bTo P N = bTo P k ++ ofI (P k).length :: ((P k).map mb ++ rest)
  | 0, h => absurd h (by omega)
  | N + 1, h => by
    by_cases hk : k = N
    · subst hk
      exact ⟨[], by simp [bTo]⟩
    · obtain ⟨rest, hr⟩ := bTo_split P k N (by omega)
      exact ⟨rest ++ ofI (P N).length :: (P N).map mb, by simp [bTo, hr]⟩

theorem parse_to (P : Nat → List Int) (hP : ∀ j, (P j).length ≤ 255) (N : Nat) : ∀ k, k ≤ N →
    parse (ints (bTo P N)).length (ints (bTo P N)) [] = parse (ints (bTo P N)).length ((ints (bTo P N)).drop (bTo P k).length) (wTo P k)
  | 0, _ => by simp [bTo, wTo]
  | k + 1, hk => by
    rw [parse_to P hP N k (by omega)]
    obtain ⟨rest, hr⟩ := bTo_split P k N (by omega)
    have hl := hP k
    have hz : ints (bTo P N) = ints (bTo P k) ++ ((P k).length : Int) :: (ints ((P k).map mb) ++ ints rest) := by
      rw [hr, ints_append]
      simp only [ints, List.map_cons, List.map_append]
      rw [ofI_nat _ (by omega) (by omega)]
    have hkl : (ints (bTo P k)).length = (bTo P k).length := ints_length _
    have hll : (ints ((P k).map mb)).length = (P k).length := by simp [ints]
    have hlt : (bTo P k).length < (ints (bTo P N)).length := by rw [hz]; simp [ints_length]
    have hget : (ints (bTo P N)).getD (bTo P k).length 0 = ((P k).length : Int) := by
      rw [hz]; simp [List.getD, ← hkl]
    have hdrop : (ints (bTo P N)).drop ((bTo P k).length + 1) = ints ((P k).map mb) ++ ints rest := by
      rw [hz, ← hkl, ← List.drop_drop, List.drop_left]
      rfl
    rw [parse_step (ints (bTo P N)) (bTo P k).length hlt (wTo P k) (P k).length (by rw [hget]; simp) (by rw [hz]; simp [ints]; omega)]
    have ht : ((ints (bTo P N)).drop ((bTo P k).length + 1)).take (P k).length = ints ((P k).map mb) := by
      rw [hdrop, ← hll, List.take_left]
    rw [ht, sep_wTo]
    have hb : (bTo P (k + 1)).length = (bTo P k).length + 1 + (P k).length := by simp [bTo]; omega
    rw [hb]
    simp only [wTo, quoted, flat_mb, List.append_assoc]

/-- THE PLAIN LAW OF LawS0569BPrintable. -/
theorem out_printable (P : Nat → List Int) (hP : ∀ j, (P j).length ≤ 255) (N : Nat) : outS (ints (bTo P N)) = wTo P N := by
  unfold outS
  rw [parse_to P hP N N (Nat.le_refl _), ← ints_length, List.drop_length, parse_nil]
  rfl
theorem ok_printable (P : Nat → List Int) (hP : ∀ j, (P j).length ≤ 255) (N : Nat) : outOk (ints (bTo P N)) = decide (0 < N) := by
  unfold outOk
  rw [out_printable P hP N]
  have := wTo_len P N
  by_cases h : N = 0
  · rw [this.2 h, h]
  · have h2 : (wTo P N).length ≠ 0 := fun e => h (this.1 e)
    rw [decide_eq_true (by omega), decide_eq_true (by omega)]
end Go.Proofs.YbulkktkFmt.Plain
