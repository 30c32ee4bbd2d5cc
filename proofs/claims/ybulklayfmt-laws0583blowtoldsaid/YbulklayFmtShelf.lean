import Derived.Shelf.Strings.Builder1
import Derived.Shelf.Strings.Builder2
import Derived.Shelf.Strings.OnBuilder
import Derived.Shelf.Strings.Prefix
import Derived.Test.YbulklayFmtProg
namespace Go.Proofs
open Go.Shelf
def Ybaf.lays156_ren : Go.Shelf.Ren := ⟨fun | 156 => 9 | 165 => 12 | 166 => 13 | 169 => 14 | 240 => 15 | 241 => 16 | 276 => 17 | 277 => 18 | n => n, fun | 31 => 29 | 9 => 9 | 3 => 3 | 4 => 4 | 0 => 0 | 20 => 20 | 72 => 36 | 76 => 40 | 70 => 33 | 37 => 34 | 75 => 39 | 127 => 42 | 164 => 43 | 5 => 5 | 80 => 24 | n => n, fun | n => n⟩
theorem Ybaf.lays156 : Go.Proofs.Lays.n156 Ybaf.prog Ybaf.lays156_ren := {
  mixed := by kernel_rfl
  f156 := Ybaf.func9.trans (congrArg some (by kernel_rfl))
  f165 := Ybaf.func12.trans (congrArg some (by kernel_rfl))
  f166 := Ybaf.func13.trans (congrArg some (by kernel_rfl))
  f169 := Ybaf.func14.trans (congrArg some (by kernel_rfl))
  f240 := Ybaf.func15.trans (congrArg some (by kernel_rfl))
  f241 := Ybaf.func16.trans (congrArg some (by kernel_rfl))
  f276 := Ybaf.func17.trans (congrArg some (by kernel_rfl))
  f277 := Ybaf.func18.trans (congrArg some (by kernel_rfl))
  t0 := Ybaf.underlying0
  a0 := Ybaf.isAgg0
  z0 := Ybaf.sizeOf0
  v0 := Ybaf.zeroValue0
  t3 := Ybaf.underlying3
  a3 := Ybaf.isAgg3
  z3 := Ybaf.sizeOf3
  v3 := Ybaf.zeroValue3
  t4 := Ybaf.underlying4
  a4 := Ybaf.isAgg4
  z4 := Ybaf.sizeOf4
  v4 := Ybaf.zeroValue4
  t9 := Ybaf.underlying9
  a9 := Ybaf.isAgg9
  z9 := Ybaf.sizeOf9
  v9 := Ybaf.zeroValue9
  t20 := Ybaf.underlying20
  a20 := Ybaf.isAgg20
  z20 := Ybaf.sizeOf20
  v20 := Ybaf.zeroValue20
  t31 := Ybaf.underlying29
  a31 := Ybaf.isAgg29
  z31 := Ybaf.sizeOf29
  v31 := Ybaf.zeroValue29
  t37 := Ybaf.underlying34
  a37 := Ybaf.isAgg34
  z37 := Ybaf.sizeOf34
  v37 := Ybaf.zeroValue34
  t70 := Ybaf.underlying33
  a70 := Ybaf.isAgg33
  z70 := Ybaf.sizeOf33
  v70 := Ybaf.zeroValue33
  t72 := Ybaf.underlying36
  a72 := Ybaf.isAgg36
  z72 := Ybaf.sizeOf36
  v72 := Ybaf.zeroValue36
  t75 := Ybaf.underlying39
  a75 := Ybaf.isAgg39
  z75 := Ybaf.sizeOf39
  v75 := Ybaf.zeroValue39
  t76 := Ybaf.underlying40
  a76 := Ybaf.isAgg40
  z76 := Ybaf.sizeOf40
  v76 := Ybaf.zeroValue40
  t127 := Ybaf.underlying42
  a127 := Ybaf.isAgg42
  z127 := Ybaf.sizeOf42
  v127 := Ybaf.zeroValue42
  t164 := Ybaf.underlying43
  a164 := Ybaf.isAgg43
  z164 := Ybaf.sizeOf43
  v164 := Ybaf.zeroValue43 }
theorem Ybaf.Builder_Extra_156 : Builder.Extra Ybaf.prog Ybaf.lays156_ren := {
  sizeBuilder := by kernel_rfl
  liesBuilder := by kernel_rfl
  t5 := Ybaf.underlying5
  a5 := Ybaf.isAgg5
  z5 := Ybaf.sizeOf5
  v5 := Ybaf.zeroValue5
  infoByte := by kernel_rfl
  cellsByte := by kernel_rfl
  sizeByte := by kernel_rfl
  neB5 := by decide }
open Go.RowKit in
theorem Ybaf.strings_Join (bk o c : Nat) (xs : List ByteArray) (sep : ByteArray) (w : World) (hcells : ∀ (j : Nat) x, xs[j]? = some x → w.cell? ⟨bk, o + j, none⟩ = some (.string x)) (hbk : bk < w.heap.size) (hN : xs.length ≤ 140737488355328) (hcap : xs.length ≤ c) (hlen : (Lib.join (xs.map (·.data.toList)) sep.data.toList).length ≤ 140737488355328) :
    Calls Ybaf.prog 9 #[.slice (some ⟨bk, o, none⟩) xs.length c, .string sep] w fun e w' => e = .returned (.string ⟨(Lib.join (xs.map (·.data.toList)) sep.data.toList).toArray⟩) ∧ Below w.heap.size w w' := Any.strings_Join Ybaf.lays156 Ybaf.Builder_Extra_156 bk o c xs sep w hcells hbk hN hcap hlen
def Ybaf.lays99_ren : Go.Shelf.Ren := ⟨fun | 99 => 7 | 206 => 11 | n => n, fun | 9 => 9 | 4 => 4 | 3 => 3 | n => n, fun | n => n⟩
theorem Ybaf.lays99 : Go.Proofs.Lays.n99 Ybaf.prog Ybaf.lays99_ren := {
  mixed := by kernel_rfl
  f99 := Ybaf.func7.trans (congrArg some (by kernel_rfl))
  f206 := Ybaf.func11.trans (congrArg some (by kernel_rfl))
  t3 := Ybaf.underlying3
  a3 := Ybaf.isAgg3
  z3 := Ybaf.sizeOf3
  v3 := Ybaf.zeroValue3
  t4 := Ybaf.underlying4
  a4 := Ybaf.isAgg4
  z4 := Ybaf.sizeOf4
  v4 := Ybaf.zeroValue4
  t9 := Ybaf.underlying9
  a9 := Ybaf.isAgg9
  z9 := Ybaf.sizeOf9
  v9 := Ybaf.zeroValue9 }
open Go.RowKit Go.Lib in
theorem Ybaf.strings_HasPrefix (s p : ByteArray) (w : World) :
    Calls Ybaf.prog 7 #[.string s, .string p] w fun e w' => e = .returned (.bool (Lib.hasPrefix s.data.toList p.data.toList)) ∧ w' = w := Any.strings_HasPrefix Ybaf.lays99 s p w
end Go.Proofs
