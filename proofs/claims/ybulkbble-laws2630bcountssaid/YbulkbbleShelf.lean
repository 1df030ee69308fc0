/-
  The shelf's contracts of strings.Builder's Len and String at this program, as the kit's tool writes them in plain words (those that the law uses).
-/
import Derived.Shelf.Strings.BuilderF
import Derived.Shelf.Strings.BuilderK
import Derived.Test.YbulkbbleProg
namespace Go.Proofs.Ybulkbble
open Go.Shelf
def Yba.lays170_ren : Go.Shelf.Ren := ⟨fun | 170 => 7 | n => n, fun | 70 => 23 | 3 => 3 | 0 => 0 | 72 => 25 | 37 => 22 | 5 => 5 | n => n, fun | n => n⟩
theorem Yba.lays170 : Go.Proofs.Lays.n170 Yba.prog Yba.lays170_ren := {
  mixed := by kernel_rfl
  f170 := Yba.func7.trans (congrArg some (by kernel_rfl))
  t0 := Yba.underlying0
  a0 := Yba.isAgg0
  z0 := Yba.sizeOf0
  v0 := Yba.zeroValue0
  t3 := Yba.underlying3
  a3 := Yba.isAgg3
  z3 := Yba.sizeOf3
  v3 := Yba.zeroValue3
  t37 := Yba.underlying22
  a37 := Yba.isAgg22
  z37 := Yba.sizeOf22
  v37 := Yba.zeroValue22
  t70 := Yba.underlying23
  a70 := Yba.isAgg23
  z70 := Yba.sizeOf23
  v70 := Yba.zeroValue23
  t72 := Yba.underlying25
  a72 := Yba.isAgg25
  z72 := Yba.sizeOf25
  v72 := Yba.zeroValue25 }
def Yba.lays169_ren : Go.Shelf.Ren := ⟨fun | 169 => 9 | n => n, fun | 70 => 23 | 9 => 9 | 0 => 0 | 72 => 25 | 37 => 22 | 127 => 40 | 3 => 3 | 5 => 5 | n => n, fun | n => n⟩
theorem Yba.lays169 : Go.Proofs.Lays.n169 Yba.prog Yba.lays169_ren := {
  mixed := by kernel_rfl
  f169 := Yba.func9.trans (congrArg some (by kernel_rfl))
  t0 := Yba.underlying0
  a0 := Yba.isAgg0
  z0 := Yba.sizeOf0
  v0 := Yba.zeroValue0
  t3 := Yba.underlying3
  a3 := Yba.isAgg3
  z3 := Yba.sizeOf3
  v3 := Yba.zeroValue3
  t9 := Yba.underlying9
  a9 := Yba.isAgg9
  z9 := Yba.sizeOf9
  v9 := Yba.zeroValue9
  t37 := Yba.underlying22
  a37 := Yba.isAgg22
  z37 := Yba.sizeOf22
  v37 := Yba.zeroValue22
  t70 := Yba.underlying23
  a70 := Yba.isAgg23
  z70 := Yba.sizeOf23
  v70 := Yba.zeroValue23
  t72 := Yba.underlying25
  a72 := Yba.isAgg25
  z72 := Yba.sizeOf25
  v72 := Yba.zeroValue25
  t127 := Yba.underlying40
  a127 := Yba.isAgg40
  z127 := Yba.sizeOf40
  v127 := Yba.zeroValue40 }
theorem Yba.Builder_Extra_169 : Builder.Extra Yba.prog Yba.lays169_ren := {
  sizeBuilder := by kernel_rfl
  liesBuilder := by kernel_rfl
  t5 := Yba.underlying5
  a5 := Yba.isAgg5
  z5 := Yba.sizeOf5
  v5 := Yba.zeroValue5
  infoByte := by kernel_rfl
  cellsByte := by kernel_rfl
  sizeByte := by kernel_rfl
  neB5 := by decide }
open Go.RowKit in
theorem Yba.Builder_Len_f (B b : Nat) (bs : List Value) (w : World) (h : Lib.IsBuilderF 25 5 B b bs w) :
    Calls Yba.prog 7 #[.pointer (some ⟨b, 0, none⟩)] w fun e w' => e = .returned (.int .i64 bs.length) ∧ w' = w := Any.Builder_Len_f Yba.lays170 B b bs w h
open Go.RowKit in
theorem Yba.Builder_String_any_k (B b : Nat) (l : List UInt8) (w : World) (h : Lib.IsBuilderF 25 5 B b (Lib.byteCells l) w) (hBw : B ≤ w.heap.size) :
    Calls Yba.prog 9 #[.pointer (some ⟨b, 0, none⟩)] w fun e w' => e = .returned (.string ⟨l.toArray⟩) ∧ (Lib.IsBuilderF 25 5 B b (Lib.byteCells l) w' ∧ Below B w w' ∧ Lib.OthersKept 5 (some b) w w') := Any.Builder_String_any_k Yba.lays169 Yba.Builder_Extra_169 B b l w h hBw
end Go.Proofs.Ybulkbble
