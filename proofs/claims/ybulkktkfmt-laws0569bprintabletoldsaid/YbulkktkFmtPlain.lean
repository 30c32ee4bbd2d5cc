import Derived.Stop.FmtTextWidths
namespace Go.Proofs.YbulkktkFmt.Plain
open Go.Extern

def ofI (c : Int) : UInt8 := UInt8.ofNat c.toNat
def esc3 (c : Int) : List UInt8 := 92 :: FmtText.zeros 3 c
/-- What textTXT writes for one octet. -/
def esc (c : Int) : List UInt8 := if c = 34 ∨ c = 92 then [92, ofI c] else if c < 32 ∨ 126 < c then esc3 c else [ofI c]
def sep (acc : List UInt8) : List UInt8 := if acc.length = 0 then [] else [32]
def quoted (l : List Int) : List UInt8 := [34] ++ l.flatMap esc ++ [34]
/-- textTXT, with fuel. -/
def parse : Nat → List Int → List UInt8 → Option (List UInt8)
  | 0, _, acc => some acc
  | _ + 1, [], acc => some acc
  | f + 1, n :: r, acc => if r.length < n.toNat then none else parse f (r.drop n.toNat) (acc ++ sep acc ++ quoted (r.take n.toNat))

theorem parse_nil (f : Nat) (acc : List UInt8) : parse f [] acc = some acc := by cases f <;> rfl
theorem parse_fuel : ∀ (f g : Nat) (r : List Int) (acc : List UInt8), r.length ≤ f → r.length ≤ g → parse f r acc = parse g r acc
  | f, g, [], acc, _, _ => by rw [parse_nil, parse_nil]
  | f + 1, g + 1, n :: r, acc, hf, hg => by
    simp only [List.length_cons] at hf hg
    simp only [parse]
    split
    · rfl
    · exact parse_fuel f g _ _ (by simp; omega) (by simp; omega)

/-- One round that goes on. -/
theorem parse_step (zs : List Int) (i : Nat) (hi : i < zs.length) (acc : List UInt8) (n : Nat) (hn : (zs.getD i 0).toNat = n) (hfit : i + 1 + n ≤ zs.length) :
    parse zs.length (zs.drop i) acc = parse zs.length (zs.drop (i + 1 + n)) (acc ++ sep acc ++ quoted ((zs.drop (i + 1)).take n)) := by
  have hd : zs.drop i = zs.getD i 0 :: zs.drop (i + 1) := by
    rw [List.drop_eq_getElem_cons hi]; simp [List.getD, hi]
  obtain ⟨f, hf⟩ : ∃ f, zs.length = f + 1 := ⟨zs.length - 1, by omega⟩
  rw [hd, hf]
  simp only [parse]
  rw [hn, if_neg (by simp; omega), List.drop_drop]
  exact parse_fuel _ _ _ _ (by simp; omega) (by simp; omega)

theorem parse_stop (zs : List Int) (i : Nat) (hi : i < zs.length) (acc : List UInt8) (n : Nat) (hn : (zs.getD i 0).toNat = n) (hfit : ¬ i + 1 + n ≤ zs.length) :
    parse zs.length (zs.drop i) acc = none := by
  have hd : zs.drop i = zs.getD i 0 :: zs.drop (i + 1) := by
    rw [List.drop_eq_getElem_cons hi]; simp [List.getD, hi]
  obtain ⟨f, hf⟩ : ∃ f, zs.length = f + 1 := ⟨zs.length - 1, by omega⟩
  rw [hd, hf]
  simp only [parse]
  rw [hn, if_pos (by simp; omega)]

theorem u8_cases {P : Int → Prop} (h : ∀ u : Fin 256, P (u.val : Int)) (c : Int) (h0 : 0 ≤ c) (h1 : c < 256) : P c := by
  have := h ⟨c.toNat, by omega⟩
  simpa [Int.toNat_of_nonneg h0] using this
theorem esc3_len (c : Int) (h0 : 0 ≤ c) (h1 : c < 256) : (esc3 c).length = 4 := u8_cases (P := fun c => (esc3 c).length = 4) (by decide +kernel) c h0 h1
theorem esc_len (c : Int) (h0 : 0 ≤ c) (h1 : c < 256) : (esc c).length ≤ 4 := by
  unfold esc
  split
  · simp
  split
  · rw [esc3_len c h0 h1]; omega
  · simp
theorem flat_len : ∀ (l : List Int), (∀ c ∈ l, 0 ≤ c ∧ c < 256) → (l.flatMap esc).length ≤ 4 * l.length
  | [], _ => by simp
  | c :: l, h => by
    have h1 := flat_len l (fun x hx => h x (by simp [hx]))
    have h2 := esc_len c (h c (by simp)).1 (h c (by simp)).2
    simp only [List.flatMap_cons, List.length_append, List.length_cons]
    omega
theorem take_flat (D : List Int) (k : Nat) (hk : k < D.length) (c : Int) (hc : D.getD k 0 = c) : (D.take (k + 1)).flatMap esc = (D.take k).flatMap esc ++ esc c := by
  rw [List.take_succ_eq_append_getElem hk, List.flatMap_append]
  have : D[k] = c := by rw [← hc]; simp [List.getD, hk]
  simp [this]

/-- What textTXT hands back. -/
def outS (zs : List Int) : List UInt8 := (parse zs.length zs []).getD []
def outOk (zs : List Int) : Bool := decide (0 < (outS zs).length)
end Go.Proofs.YbulkktkFmt.Plain
