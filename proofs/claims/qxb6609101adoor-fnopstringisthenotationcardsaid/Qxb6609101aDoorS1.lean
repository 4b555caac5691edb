/-
  The shelf's contract on strconv.AppendInt at base 10, laid at this program in plain words (the kit's lay-shelf and lay-plain): the numbering, the bodies compared, one application. The table's name is read off the given row.
-/
import Derived.Shelf.Strconv.AppendIntPublic10
import Derived.Test.Qxb6609101aDoorRows
namespace Go.Proofs
open Go.Shelf
def Tryd.laysM176_ren : Go.Shelf.Ren := ⟨fun | 176 => 16 | 249 => 18 | 288 => 19 | 283 => 20 | 284 => 21 | 285 => 22 | 286 => 23 | 129 => 25 | 317 => 24 | 318 => 26 | 319 => 27 | 320 => 28 | 337 => 29 | 338 => 30 | n => n, fun | 37 => 31 | 2 => 2 | 3 => 3 | 53 => 36 | 4 => 4 | 9 => 9 | 171 => 37 | 0 => 0 | 173 => 42 | 212 => 46 | 51 => 47 | 5 => 5 | 20 => 20 | 213 => 48 | 46 => 50 | 232 => 53 | 233 => 54 | n => n, fun | 17 => 0 | 18 => 1 | 19 => 2 | n => n⟩
theorem Tryd.laysM176 : Go.Proofs.LaysM.n176 Tryd.prog Tryd.laysM176_ren := {
  mixed := by kernel_rfl
  f129 := Tryd.func25.trans (congrArg some (by kernel_rfl))
  f176 := Tryd.func16.trans (congrArg some (by kernel_rfl))
  f249 := Tryd.func18.trans (congrArg some (by kernel_rfl))
  f283 := Tryd.func20.trans (congrArg some (by kernel_rfl))
  f284 := Tryd.func21.trans (congrArg some (by kernel_rfl))
  f285 := Tryd.func22.trans (congrArg some (by kernel_rfl))
  f286 := Tryd.func23.trans (congrArg some (by kernel_rfl))
  f288 := Tryd.func19.trans (congrArg some (by kernel_rfl))
  f317 := Tryd.func24.trans (congrArg some (by kernel_rfl))
  f318 := Tryd.func26.trans (congrArg some (by kernel_rfl))
  f319 := Tryd.func27.trans (congrArg some (by kernel_rfl))
  f320 := Tryd.func28.trans (congrArg some (by kernel_rfl))
  f337 := Tryd.func29.trans (congrArg some (by kernel_rfl))
  f338 := Tryd.func30.trans (congrArg some (by kernel_rfl))
  t0 := Tryd.underlying0
  a0 := Tryd.isAgg0
  z0 := Tryd.sizeOf0
  v0 := Tryd.zeroValue0
  t2 := Tryd.underlying2
  a2 := Tryd.isAgg2
  z2 := Tryd.sizeOf2
  v2 := Tryd.zeroValue2
  t3 := Tryd.underlying3
  a3 := Tryd.isAgg3
  z3 := Tryd.sizeOf3
  v3 := Tryd.zeroValue3
  t4 := Tryd.underlying4
  a4 := Tryd.isAgg4
  z4 := Tryd.sizeOf4
  v4 := Tryd.zeroValue4
  t5 := Tryd.underlying5
  a5 := Tryd.isAgg5
  z5 := Tryd.sizeOf5
  v5 := Tryd.zeroValue5
  t9 := Tryd.underlying9
  a9 := Tryd.isAgg9
  z9 := Tryd.sizeOf9
  v9 := Tryd.zeroValue9
  t20 := Tryd.underlying20
  a20 := Tryd.isAgg20
  z20 := Tryd.sizeOf20
  v20 := Tryd.zeroValue20
  t37 := Tryd.underlying31
  a37 := Tryd.isAgg31
  z37 := Tryd.sizeOf31
  v37 := Tryd.zeroValue31
  t46 := Tryd.underlying50
  a46 := Tryd.isAgg50
  z46 := Tryd.sizeOf50
  v46 := Tryd.zeroValue50
  t51 := Tryd.underlying47
  a51 := Tryd.isAgg47
  z51 := Tryd.sizeOf47
  v51 := Tryd.zeroValue47
  t53 := Tryd.underlying36
  a53 := Tryd.isAgg36
  z53 := Tryd.sizeOf36
  v53 := Tryd.zeroValue36
  t171 := Tryd.underlying37
  a171 := Tryd.isAgg37
  z171 := Tryd.sizeOf37
  v171 := Tryd.zeroValue37
  t173 := Tryd.underlying42
  a173 := Tryd.isAgg42
  z173 := Tryd.sizeOf42
  v173 := Tryd.zeroValue42
  t212 := Tryd.underlying46
  a212 := Tryd.isAgg46
  z212 := Tryd.sizeOf46
  v212 := Tryd.zeroValue46
  t213 := Tryd.underlying48
  a213 := Tryd.isAgg48
  z213 := Tryd.sizeOf48
  t232 := Tryd.underlying53
  a232 := Tryd.isAgg53
  z232 := Tryd.sizeOf53
  v232 := Tryd.zeroValue53
  t233 := Tryd.underlying54
  a233 := Tryd.isAgg54
  z233 := Tryd.sizeOf54
  v233 := Tryd.zeroValue54
  g17 := by kernel_rfl
  g18 := by kernel_rfl
  g19 := by kernel_rfl
  i0 := by kernel_rfl
  i2 := by kernel_rfl
  i3 := by kernel_rfl
  i4 := by kernel_rfl
  i5 := by kernel_rfl
  i9 := by kernel_rfl
  i20 := by kernel_rfl
  i37 := by kernel_rfl
  i46 := by kernel_rfl
  i51 := by kernel_rfl
  i53 := by kernel_rfl
  i171 := by kernel_rfl
  i173 := by kernel_rfl
  i212 := by kernel_rfl
  i232 := by kernel_rfl
  i233 := by kernel_rfl
  m17 := by kernel_rfl
  m18 := by kernel_rfl
  m19 := by kernel_rfl }
namespace Qxb6609101aDoor
/-- The table of powers of ten: her name, off the given row. -/
def powName : String := Rows.fnWritesExactlyWhenPrintedAsWriteRow.named.headD ""
open Go.RowKit Go.Sort Go.Lib in
theorem appendInt_any (B n : Nat) (i : Int) (h0 : -9223372036854775808 ≤ i) (h1 : i ≤ 9223372036854775807) (sv : Value) (xs : List Value) (w : World) (hown : w.ownsRow B 5 1 sv n xs) (hBw : B ≤ w.heap.size) (hlim : n + 21 ≤ 140737488355328) (htab : Lib.TabBelow Tryd.prog B w powName .u64 Lib.pow10Tab) :
    Calls Tryd.prog 16 #[sv, .int .i64 i, .int .i64 10] w fun e w' => ∃ v', e = .returned v' ∧ w'.ownsRow B 5 1 v' (n + (Lib.itoa i).length) (xs ++ Lib.byteCells (Lib.itoa i)) ∧ Below B w w' ∧ Lib.OthersKept 5 none w w' :=
  Any.strconv_AppendInt_10 Tryd.laysM176 B n i h0 h1 sv xs w hown hBw hlim htab
end Qxb6609101aDoor
end Go.Proofs
