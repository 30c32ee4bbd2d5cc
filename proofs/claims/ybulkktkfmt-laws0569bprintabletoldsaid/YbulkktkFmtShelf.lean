import Derived.Shelf.Strings.Builder1
import Derived.Shelf.Strings.BuilderF
import Derived.Shelf.Strings.BuilderK
import Derived.Test.YbulkktkFmtProg
namespace Go.Proofs
open Go.Shelf
def Ybaf.lays170_ren : Go.Shelf.Ren := ⟨fun | 170 => 7 | n => n, fun | 0 => 0 | 3 => 3 | 4 => 4 | 5 => 5 | 9 => 9 | 20 => 20 | 37 => 23 | 70 => 29 | 72 => 31 | 75 => 34 | 80 => 38 | 127 => 44 | 164 => 45 | n => n, fun | n => n⟩
theorem Ybaf.lays170 : Go.Proofs.Lays.n170 Ybaf.prog Ybaf.lays170_ren := {
  mixed := by kernel_rfl
  f170 := Ybaf.func7.trans (congrArg some (by kernel_rfl))
  t0 := Ybaf.underlying0
  a0 := Ybaf.isAgg0
  z0 := Ybaf.sizeOf0
  v0 := Ybaf.zeroValue0
  t3 := Ybaf.underlying3
  a3 := Ybaf.isAgg3
  z3 := Ybaf.sizeOf3
  v3 := Ybaf.zeroValue3
  t37 := Ybaf.underlying23
  a37 := Ybaf.isAgg23
  z37 := Ybaf.sizeOf23
  v37 := Ybaf.zeroValue23
  t70 := Ybaf.underlying29
  a70 := Ybaf.isAgg29
  z70 := Ybaf.sizeOf29
  v70 := Ybaf.zeroValue29
  t72 := Ybaf.underlying31
  a72 := Ybaf.isAgg31
  z72 := Ybaf.sizeOf31
  v72 := Ybaf.zeroValue31 }
def Ybaf.lays169_ren : Go.Shelf.Ren := ⟨fun | 169 => 10 | n => n, fun | 0 => 0 | 3 => 3 | 4 => 4 | 5 => 5 | 9 => 9 | 20 => 20 | 37 => 23 | 70 => 29 | 72 => 31 | 75 => 34 | 80 => 38 | 127 => 44 | 164 => 45 | n => n, fun | n => n⟩
theorem Ybaf.lays169 : Go.Proofs.Lays.n169 Ybaf.prog Ybaf.lays169_ren := {
  mixed := by kernel_rfl
  f169 := Ybaf.func10.trans (congrArg some (by kernel_rfl))
  t0 := Ybaf.underlying0
  a0 := Ybaf.isAgg0
  z0 := Ybaf.sizeOf0
  v0 := Ybaf.zeroValue0
  t3 := Ybaf.underlying3
  a3 := Ybaf.isAgg3
  z3 := Ybaf.sizeOf3
  v3 := Ybaf.zeroValue3
  t9 := Ybaf.underlying9
  a9 := Ybaf.isAgg9
  z9 := Ybaf.sizeOf9
  v9 := Ybaf.zeroValue9
  t37 := Ybaf.underlying23
  a37 := Ybaf.isAgg23
  z37 := Ybaf.sizeOf23
  v37 := Ybaf.zeroValue23
  t70 := Ybaf.underlying29
  a70 := Ybaf.isAgg29
  z70 := Ybaf.sizeOf29
  v70 := Ybaf.zeroValue29
  t72 := Ybaf.underlying31
  a72 := Ybaf.isAgg31
  z72 := Ybaf.sizeOf31
  v72 := Ybaf.zeroValue31
  t127 := Ybaf.underlying44
  a127 := Ybaf.isAgg44
  z127 := Ybaf.sizeOf44
  v127 := Ybaf.zeroValue44 }
def Ybaf.lays167_ren : Go.Shelf.Ren := ⟨fun | 167 => 8 | 240 => 11 | 276 => 13 | n => n, fun | 0 => 0 | 3 => 3 | 4 => 4 | 5 => 5 | 9 => 9 | 20 => 20 | 37 => 23 | 70 => 29 | 72 => 31 | 75 => 34 | 80 => 38 | 127 => 44 | 164 => 45 | n => n, fun | n => n⟩
theorem Ybaf.lays167 : Go.Proofs.Lays.n167 Ybaf.prog Ybaf.lays167_ren := {
  mixed := by kernel_rfl
  f167 := Ybaf.func8.trans (congrArg some (by kernel_rfl))
  f240 := Ybaf.func11.trans (congrArg some (by kernel_rfl))
  f276 := Ybaf.func13.trans (congrArg some (by kernel_rfl))
  t0 := Ybaf.underlying0
  a0 := Ybaf.isAgg0
  z0 := Ybaf.sizeOf0
  v0 := Ybaf.zeroValue0
  t4 := Ybaf.underlying4
  a4 := Ybaf.isAgg4
  z4 := Ybaf.sizeOf4
  v4 := Ybaf.zeroValue4
  t5 := Ybaf.underlying5
  a5 := Ybaf.isAgg5
  z5 := Ybaf.sizeOf5
  v5 := Ybaf.zeroValue5
  t9 := Ybaf.underlying9
  a9 := Ybaf.isAgg9
  z9 := Ybaf.sizeOf9
  v9 := Ybaf.zeroValue9
  t20 := Ybaf.underlying20
  a20 := Ybaf.isAgg20
  z20 := Ybaf.sizeOf20
  v20 := Ybaf.zeroValue20
  t37 := Ybaf.underlying23
  a37 := Ybaf.isAgg23
  z37 := Ybaf.sizeOf23
  v37 := Ybaf.zeroValue23
  t70 := Ybaf.underlying29
  a70 := Ybaf.isAgg29
  z70 := Ybaf.sizeOf29
  v70 := Ybaf.zeroValue29
  t72 := Ybaf.underlying31
  a72 := Ybaf.isAgg31
  z72 := Ybaf.sizeOf31
  v72 := Ybaf.zeroValue31
  t75 := Ybaf.underlying34
  a75 := Ybaf.isAgg34
  z75 := Ybaf.sizeOf34
  v75 := Ybaf.zeroValue34
  t164 := Ybaf.underlying45
  a164 := Ybaf.isAgg45
  z164 := Ybaf.sizeOf45
  v164 := Ybaf.zeroValue45 }
theorem Ybaf.extra169 : Builder.Extra Ybaf.prog Ybaf.lays169_ren := {
  sizeBuilder := by kernel_rfl
  liesBuilder := by kernel_rfl
  t5 := Ybaf.underlying5
  a5 := Ybaf.isAgg5
  z5 := Ybaf.sizeOf5
  v5 := Ybaf.zeroValue5
  infoByte := by kernel_rfl
  cellsByte := by kernel_rfl
  sizeByte := by kernel_rfl
  neB5 := by decide }
theorem Ybaf.extra167 : Builder.Extra Ybaf.prog Ybaf.lays167_ren := {
  sizeBuilder := by kernel_rfl
  liesBuilder := by kernel_rfl
  t5 := Ybaf.underlying5
  a5 := Ybaf.isAgg5
  z5 := Ybaf.sizeOf5
  v5 := Ybaf.zeroValue5
  infoByte := by kernel_rfl
  cellsByte := by kernel_rfl
  sizeByte := by kernel_rfl
  neB5 := by decide }
open Go.RowKit in
/-- (*strings.Builder).Len. -/
theorem Ybaf.Builder_Len_f (B b : Nat) (bs : List Value) (w : World) (h : Lib.IsBuilderF 31 5 B b bs w) :
    Calls Ybaf.prog 7 #[.pointer (some ⟨b, 0, none⟩)] w fun e w' => e = .returned (.int .i64 bs.length) ∧ w' = w := Any.Builder_Len_f Ybaf.lays170 B b bs w h
open Go.RowKit in
/-- (*strings.Builder).String. -/
theorem Ybaf.Builder_String_any_f (B b : Nat) (l : List UInt8) (w : World) (h : Lib.IsBuilderF 31 5 B b (Lib.byteCells l) w) (hBw : B ≤ w.heap.size) :
    Calls Ybaf.prog 10 #[.pointer (some ⟨b, 0, none⟩)] w fun e w' => e = .returned (.string ⟨l.toArray⟩) ∧ (Lib.IsBuilderF 31 5 B b (Lib.byteCells l) w' ∧ Below B w w') := Any.Builder_String_any_f Ybaf.lays169 Ybaf.extra169 B b l w h hBw
open Go.RowKit in
/-- (*strings.Builder).WriteByte. -/
theorem Ybaf.writeByte_k (B b : Nat) (bs : List Value) (c : Int) (w : World) (h : Lib.IsBuilderF 31 5 B b bs w) (hlen : bs.length + 1 ≤ 140737488355328) (hBw : B ≤ w.heap.size) :
    Calls Ybaf.prog 8 #[.pointer (some ⟨b, 0, none⟩), .int .u8 c] w fun e w' => e = .returned .nilIface ∧ (Lib.BuilderAtF 31 5 B b (.pointer (some ⟨b, 0, none⟩)) (bs ++ [.int .u8 c]) w' ∧ Below B w w' ∧ Lib.OthersKept 5 (some b) w w') := Any.Builder_WriteByte_k Ybaf.lays167 Ybaf.extra167 B b bs c w h hlen hBw
/-- copyCheck at a builder that has been used. -/
theorem Ybaf.copyCheck_used (b : Nat) (w : World) (h0 : w.cell? ⟨b, 0, none⟩ = some (.pointer (some ⟨b, 0, none⟩))) :
    Calls Ybaf.prog 11 #[.pointer (some ⟨b, 0, none⟩)] w fun e w' => e = .returned (.tuple #[]) ∧ w' = w := Any.Builder_copyCheck_used { Ybaf.lays167 with } Ybaf.extra167.toX72 b w h0
/-- copyCheck at a fresh builder. -/
theorem Ybaf.copyCheck_fresh (b : Nat) (w : World) (h0 : w.cell? ⟨b, 0, none⟩ = some (.pointer none)) (hsh : w.shape? b = some (31, 2)) (hfz : w.frozen? ⟨b, 0, none⟩ = false) :
    Calls Ybaf.prog 11 #[.pointer (some ⟨b, 0, none⟩)] w fun e w' => e = .returned (.tuple #[]) ∧ w' = w.setCell ⟨b, 0, none⟩ (.pointer (some ⟨b, 0, none⟩)) := Any.Builder_copyCheck_fresh { Ybaf.lays167 with } Ybaf.extra167.toX72 b w h0 hsh hfz
end Go.Proofs
