/-
  THE SHELF's LAYING OF internal/strconv.AppendUint AT THIS DUMP, IN PLAIN WORDS: written by the kit's lay-shelf.mjs and lay-plain.mjs for this program; of it the one laying that is used. A field a fact of the dump's own or the kernel's comparison.
-/
import Derived.Shelf.LaysM
import Derived.Shelf.Strconv.AppendUint10
import Derived.Shelf.Strconv.AppendInt10
import Derived.Test.Qxb6630177aDoorRows
namespace Go.Proofs.Qxb6630177aDoor
open Go.Shelf
def Tryd.laysM288_ren : Go.Shelf.Ren := ⟨fun | 288 => 14 | 283 => 15 | 284 => 16 | 285 => 17 | 286 => 18 | 129 => 20 | 317 => 19 | 318 => 21 | 319 => 22 | 320 => 23 | 337 => 24 | 338 => 25 | n => n, fun | 37 => 41 | 53 => 33 | 3 => 3 | 4 => 4 | 9 => 9 | 171 => 44 | 0 => 0 | 173 => 47 | 212 => 51 | 51 => 36 | 5 => 5 | 20 => 20 | 213 => 52 | 46 => 54 | 232 => 57 | 233 => 58 | n => n, fun | 17 => 0 | 18 => 1 | 19 => 2 | n => n⟩
theorem Tryd.laysM288 : Go.Proofs.LaysM.n288 Tryd.prog Tryd.laysM288_ren := {
  mixed := by kernel_rfl
  f129 := Tryd.func20.trans (congrArg some (by kernel_rfl))
  f283 := Tryd.func15.trans (congrArg some (by kernel_rfl))
  f284 := Tryd.func16.trans (congrArg some (by kernel_rfl))
  f285 := Tryd.func17.trans (congrArg some (by kernel_rfl))
  f286 := Tryd.func18.trans (congrArg some (by kernel_rfl))
  f288 := Tryd.func14.trans (congrArg some (by kernel_rfl))
  f317 := Tryd.func19.trans (congrArg some (by kernel_rfl))
  f318 := Tryd.func21.trans (congrArg some (by kernel_rfl))
  f319 := Tryd.func22.trans (congrArg some (by kernel_rfl))
  f320 := Tryd.func23.trans (congrArg some (by kernel_rfl))
  f337 := Tryd.func24.trans (congrArg some (by kernel_rfl))
  f338 := Tryd.func25.trans (congrArg some (by kernel_rfl))
  t0 := Tryd.underlying0
  a0 := Tryd.isAgg0
  z0 := Tryd.sizeOf0
  v0 := Tryd.zeroValue0
  t3 := Tryd.underlying3
  a3 := Tryd.isAgg3
  z3 := Tryd.sizeOf3
  v3 := Tryd.zeroValue3
  t4 := Tryd.underlying4
  a4 := Tryd.isAgg4
  z4 := Tryd.sizeOf4
  v4 := Tryd.zeroValue4
  t5 := Tryd.underlying5
  a5 := Tryd.isAgg5
  z5 := Tryd.sizeOf5
  v5 := Tryd.zeroValue5
  t9 := Tryd.underlying9
  a9 := Tryd.isAgg9
  z9 := Tryd.sizeOf9
  v9 := Tryd.zeroValue9
  t20 := Tryd.underlying20
  a20 := Tryd.isAgg20
  z20 := Tryd.sizeOf20
  v20 := Tryd.zeroValue20
  t37 := Tryd.underlying41
  a37 := Tryd.isAgg41
  z37 := Tryd.sizeOf41
  v37 := Tryd.zeroValue41
  t46 := Tryd.underlying54
  a46 := Tryd.isAgg54
  z46 := Tryd.sizeOf54
  v46 := Tryd.zeroValue54
  t51 := Tryd.underlying36
  a51 := Tryd.isAgg36
  z51 := Tryd.sizeOf36
  v51 := Tryd.zeroValue36
  t53 := Tryd.underlying33
  a53 := Tryd.isAgg33
  z53 := Tryd.sizeOf33
  v53 := Tryd.zeroValue33
  t171 := Tryd.underlying44
  a171 := Tryd.isAgg44
  z171 := Tryd.sizeOf44
  v171 := Tryd.zeroValue44
  t173 := Tryd.underlying47
  a173 := Tryd.isAgg47
  z173 := Tryd.sizeOf47
  v173 := Tryd.zeroValue47
  t212 := Tryd.underlying51
  a212 := Tryd.isAgg51
  z212 := Tryd.sizeOf51
  v212 := Tryd.zeroValue51
  t213 := Tryd.underlying52
  a213 := Tryd.isAgg52
  z213 := Tryd.sizeOf52
  t232 := Tryd.underlying57
  a232 := Tryd.isAgg57
  z232 := Tryd.sizeOf57
  v232 := Tryd.zeroValue57
  t233 := Tryd.underlying58
  a233 := Tryd.isAgg58
  z233 := Tryd.sizeOf58
  v233 := Tryd.zeroValue58
  g17 := by kernel_rfl
  g18 := by kernel_rfl
  g19 := by kernel_rfl
  i0 := by kernel_rfl
  i3 := by kernel_rfl
  i4 := by kernel_rfl
  i5 := by kernel_rfl
  i9 := by kernel_rfl
  i20 := by kernel_rfl
  i37 := by kernel_rfl
  i46 := by kernel_rfl
  i51 := by kernel_rfl
  i53 := by kernel_rfl
  i171 := by kernel_rfl
  i173 := by kernel_rfl
  i212 := by kernel_rfl
  i232 := by kernel_rfl
  i233 := by kernel_rfl
  m17 := by kernel_rfl
  m18 := by kernel_rfl
  m19 := by kernel_rfl }
/-- the table's name, as the row names it -/
def pow10Name : String := Rows.fnStringSplitsAtAnyCutRow.named.headD Rows.fnStringSplitsAtAnyCutRow.spec
/-- internal strconv's AppendUint at base 10 -/
theorem appendUint14 (B n u : Nat) (hu64 : u < 18446744073709551616) (sv : Value) (xs : List Value) (w : World) (hown : w.ownsRow B 5 1 sv n xs) (hBw : B ≤ w.heap.size) (hlim : n + 20 ≤ 140737488355328)
    (htab : Lib.TabIs Tryd.prog w pow10Name .u64 Lib.pow10Tab) :
    Calls Tryd.prog 14 #[sv, .int .u64 u, .int .i64 10] w fun e w' => ∃ v', e = .returned v' ∧ w'.ownsRow B 5 1 v' (n + (Lib.decDigits u).length) (xs ++ Lib.byteCells (Lib.decDigits u)) ∧ Go.RowKit.Below B w w' ∧ Lib.OthersKept 5 none w w' :=
  Any.internal_strconv_AppendUint_10 Tryd.laysM288 B n u hu64 sv xs w hown hBw hlim htab
end Go.Proofs.Qxb6630177aDoor
