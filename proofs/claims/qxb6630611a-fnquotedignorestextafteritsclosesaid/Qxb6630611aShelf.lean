/-
  strings.Builder's String at this dump (seat b6630611a): the shelf's contract laid in plain words (by the guide's lay-plain.mjs, its names turned).
-/
import Derived.Shelf.Strings.Builder1
import Derived.Test.Qxb6630611aProg
namespace Go.Proofs.Qxb6630611a
open Go.Shelf Go.RowKit
def lays169_ren : Go.Shelf.Ren := ⟨fun | 169 => 10 | n => n, fun | 70 => 35 | 9 => 9 | 0 => 0 | 72 => 37 | 37 => 34 | 127 => 42 | 3 => 3 | 5 => 5 | n => n, fun | n => n⟩
theorem lays169 : Go.Proofs.Lays.n169 Try.prog lays169_ren := {
  mixed := by kernel_rfl
  f169 := Try.func10.trans (congrArg some (by kernel_rfl))
  t0 := Try.underlying0
  a0 := Try.isAgg0
  z0 := Try.sizeOf0
  v0 := Try.zeroValue0
  t3 := Try.underlying3
  a3 := Try.isAgg3
  z3 := Try.sizeOf3
  v3 := Try.zeroValue3
  t9 := Try.underlying9
  a9 := Try.isAgg9
  z9 := Try.sizeOf9
  v9 := Try.zeroValue9
  t37 := Try.underlying34
  a37 := Try.isAgg34
  z37 := Try.sizeOf34
  v37 := Try.zeroValue34
  t70 := Try.underlying35
  a70 := Try.isAgg35
  z70 := Try.sizeOf35
  v70 := Try.zeroValue35
  t72 := Try.underlying37
  a72 := Try.isAgg37
  z72 := Try.sizeOf37
  v72 := Try.zeroValue37
  t127 := Try.underlying42
  a127 := Try.isAgg42
  z127 := Try.sizeOf42
  v127 := Try.zeroValue42 }
theorem builderExtra169 : Builder.Extra Try.prog lays169_ren := {
  sizeBuilder := by kernel_rfl
  liesBuilder := by kernel_rfl
  t5 := Try.underlying5
  a5 := Try.isAgg5
  z5 := Try.sizeOf5
  v5 := Try.zeroValue5
  infoByte := by kernel_rfl
  cellsByte := by kernel_rfl
  sizeByte := by kernel_rfl
  neB5 := by decide }

theorem string_any (B b : Nat) (l : List UInt8) (w : World) (h : Lib.IsBuilder 37 5 B b (Lib.byteCells l) w) (hBw : B ≤ w.heap.size) :
    Calls Try.prog 10 #[.pointer (some ⟨b, 0, none⟩)] w fun e w' => e = .returned (.string ⟨l.toArray⟩) ∧ Below B w w' := Any.Builder_String_any lays169 builderExtra169 B b l w h hBw
end Go.Proofs.Qxb6630611a
