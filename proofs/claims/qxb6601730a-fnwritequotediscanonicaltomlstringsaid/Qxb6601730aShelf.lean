/-
  (*strings.Builder).String at this dump, off the shelf, in plain words (written by the kit's lay-plain tool for this dump): one laying and one contract.
-/
import Derived.Shelf.Strings.BuilderK
import Derived.Test.Qxb6601730aRows
namespace Go.Proofs.Qxb6601730a
open Go.Shelf
def shelf169_ren : Go.Shelf.Ren := ⟨fun | 169 => 22 | n => n, fun | 70 => 36 | 9 => 9 | 0 => 0 | 72 => 38 | 37 => 28 | 127 => 53 | 3 => 3 | 5 => 5 | n => n, fun | n => n⟩
theorem shelf169 : Go.Proofs.Lays.n169 Try.prog shelf169_ren := {
  mixed := by kernel_rfl
  f169 := Try.func22.trans (congrArg some (by kernel_rfl))
  t0 := Try.underlying0
  a0 := Try.isAgg0
  z0 := Try.sizeOf0
  v0 := Try.zeroValue0
  t3 := Try.underlying3
  a3 := Try.isAgg3
  z3 := Try.sizeOf3
  v3 := Try.zeroValue3
  t9 := Try.underlying9
  a9 := Try.isAgg9
  z9 := Try.sizeOf9
  v9 := Try.zeroValue9
  t37 := Try.underlying28
  a37 := Try.isAgg28
  z37 := Try.sizeOf28
  v37 := Try.zeroValue28
  t70 := Try.underlying36
  a70 := Try.isAgg36
  z70 := Try.sizeOf36
  v70 := Try.zeroValue36
  t72 := Try.underlying38
  a72 := Try.isAgg38
  z72 := Try.sizeOf38
  v72 := Try.zeroValue38
  t127 := Try.underlying53
  a127 := Try.isAgg53
  z127 := Try.sizeOf53
  v127 := Try.zeroValue53 }
theorem shelfExtra169 : Builder.Extra Try.prog shelf169_ren := {
  sizeBuilder := by kernel_rfl
  liesBuilder := by kernel_rfl
  t5 := Try.underlying5
  a5 := Try.isAgg5
  z5 := Try.sizeOf5
  v5 := Try.zeroValue5
  infoByte := by kernel_rfl
  cellsByte := by kernel_rfl
  sizeByte := by kernel_rfl
  neB5 := by decide }
open Go.RowKit in
/-- (*strings.Builder).String, whatever the builder holds. -/
theorem builderString (B b : Nat) (l : List UInt8) (w : World) (h : Lib.IsBuilderF 38 5 B b (Lib.byteCells l) w) (hBw : B ≤ w.heap.size) :
    Calls Try.prog 22 #[.pointer (some ⟨b, 0, none⟩)] w fun e w' => e = .returned (.string ⟨l.toArray⟩) ∧ (Lib.IsBuilderF 38 5 B b (Lib.byteCells l) w' ∧ Below B w w' ∧ Lib.OthersKept 5 (some b) w w') := Any.Builder_String_any_k shelf169 shelfExtra169 B b l w h hBw
end Go.Proofs.Qxb6601730a
