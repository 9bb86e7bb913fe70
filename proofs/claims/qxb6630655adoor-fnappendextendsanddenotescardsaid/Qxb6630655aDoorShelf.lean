/-
  internal strconv AppendUint at base 10, at this dump (seat b6630655aD): the shelf's contract laid in plain words (by the guide's lay-plain.mjs, its names turned).
-/
import Derived.Shelf.LaysM
import Derived.Shelf.Strconv.AppendInt10
import Derived.Test.Qxb6630655aDoorRows
namespace Go.Proofs.Qxb6630655aDoor
open Go.Shelf Go.RowKit
def lays288_ren : Go.Shelf.Ren := ⟨fun | 288 => 11 | 283 => 12 | 284 => 13 | 285 => 14 | 286 => 15 | 129 => 17 | 317 => 16 | 318 => 18 | 319 => 19 | 320 => 20 | 337 => 21 | 338 => 22 | n => n, fun | 37 => 23 | 53 => 28 | 3 => 3 | 4 => 4 | 9 => 9 | 171 => 38 | 0 => 0 | 173 => 41 | 212 => 45 | 51 => 22 | 5 => 5 | 20 => 20 | 213 => 46 | 46 => 36 | 232 => 50 | 233 => 51 | n => n, fun | 17 => 0 | 18 => 1 | 19 => 2 | n => n⟩
theorem lays288 : Go.Proofs.LaysM.n288 Tryd.prog lays288_ren := {
  mixed := by kernel_rfl
  f129 := Tryd.func17.trans (congrArg some (by kernel_rfl))
  f283 := Tryd.func12.trans (congrArg some (by kernel_rfl))
  f284 := Tryd.func13.trans (congrArg some (by kernel_rfl))
  f285 := Tryd.func14.trans (congrArg some (by kernel_rfl))
  f286 := Tryd.func15.trans (congrArg some (by kernel_rfl))
  f288 := Tryd.func11.trans (congrArg some (by kernel_rfl))
  f317 := Tryd.func16.trans (congrArg some (by kernel_rfl))
  f318 := Tryd.func18.trans (congrArg some (by kernel_rfl))
  f319 := Tryd.func19.trans (congrArg some (by kernel_rfl))
  f320 := Tryd.func20.trans (congrArg some (by kernel_rfl))
  f337 := Tryd.func21.trans (congrArg some (by kernel_rfl))
  f338 := Tryd.func22.trans (congrArg some (by kernel_rfl))
  t0 := Tryd.underlying0
  a0 := Tryd.isAgg0
  z0 := Tryd.sizeOf0
  v0 := Tryd.zeroValue0
  t3 := Tryd.underlying3
  a3 := Tryd.isAgg3
  z3 := Tryd.sizeOf3
  v3 := Tryd.zeroValue3
  t4 := Tryd.underlying4
  a4 := Tryd.isAgg4
  z4 := Tryd.sizeOf4
  v4 := Tryd.zeroValue4
  t5 := Tryd.underlying5
  a5 := Tryd.isAgg5
  z5 := Tryd.sizeOf5
  v5 := Tryd.zeroValue5
  t9 := Tryd.underlying9
  a9 := Tryd.isAgg9
  z9 := Tryd.sizeOf9
  v9 := Tryd.zeroValue9
  t20 := Tryd.underlying20
  a20 := Tryd.isAgg20
  z20 := Tryd.sizeOf20
  v20 := Tryd.zeroValue20
  t37 := Tryd.underlying23
  a37 := Tryd.isAgg23
  z37 := Tryd.sizeOf23
  v37 := Tryd.zeroValue23
  t46 := Tryd.underlying36
  a46 := Tryd.isAgg36
  z46 := Tryd.sizeOf36
  v46 := Tryd.zeroValue36
  t51 := Tryd.underlying22
  a51 := Tryd.isAgg22
  z51 := Tryd.sizeOf22
  v51 := Tryd.zeroValue22
  t53 := Tryd.underlying28
  a53 := Tryd.isAgg28
  z53 := Tryd.sizeOf28
  v53 := Tryd.zeroValue28
  t171 := Tryd.underlying38
  a171 := Tryd.isAgg38
  z171 := Tryd.sizeOf38
  v171 := Tryd.zeroValue38
  t173 := Tryd.underlying41
  a173 := Tryd.isAgg41
  z173 := Tryd.sizeOf41
  v173 := Tryd.zeroValue41
  t212 := Tryd.underlying45
  a212 := Tryd.isAgg45
  z212 := Tryd.sizeOf45
  v212 := Tryd.zeroValue45
  t213 := Tryd.underlying46
  a213 := Tryd.isAgg46
  z213 := Tryd.sizeOf46
  t232 := Tryd.underlying50
  a232 := Tryd.isAgg50
  z232 := Tryd.sizeOf50
  v232 := Tryd.zeroValue50
  t233 := Tryd.underlying51
  a233 := Tryd.isAgg51
  z233 := Tryd.sizeOf51
  v233 := Tryd.zeroValue51
  g17 := by kernel_rfl
  g18 := by kernel_rfl
  g19 := by kernel_rfl
  i0 := by kernel_rfl
  i3 := by kernel_rfl
  i4 := by kernel_rfl
  i5 := by kernel_rfl
  i9 := by kernel_rfl
  i20 := by kernel_rfl
  i37 := by kernel_rfl
  i46 := by kernel_rfl
  i51 := by kernel_rfl
  i53 := by kernel_rfl
  i171 := by kernel_rfl
  i173 := by kernel_rfl
  i212 := by kernel_rfl
  i232 := by kernel_rfl
  i233 := by kernel_rfl
  m17 := by kernel_rfl
  m18 := by kernel_rfl
  m19 := by kernel_rfl }

/-- The name of the table of the powers of ten. -/
def pow10Name : String := Rows.fnAppendExtendsAndDenotesRow.named.headD ""

theorem appendUint (B n u : Nat) (hu64 : u < 18446744073709551616) (sv : Value) (xs : List Value) (w : World) (hown : w.ownsRow B 5 1 sv n xs) (hBw : B ≤ w.heap.size) (hlim : n + 20 ≤ 140737488355328) (htab : Lib.TabIs Tryd.prog w pow10Name .u64 Lib.pow10Tab) :
    Calls Tryd.prog 11 #[sv, .int .u64 u, .int .i64 10] w fun e w' => ∃ v', e = .returned v' ∧ w'.ownsRow B 5 1 v' (n + (Lib.decDigits u).length) (xs ++ Lib.byteCells (Lib.decDigits u)) ∧ Below B w w' ∧ Lib.OthersKept 5 none w w' := Any.internal_strconv_AppendUint_10 lays288 B n u hu64 sv xs w hown hBw hlim htab
end Go.Proofs.Qxb6630655aDoor
