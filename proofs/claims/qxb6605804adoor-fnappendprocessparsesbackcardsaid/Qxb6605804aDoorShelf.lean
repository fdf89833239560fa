/-
  DERIVED: THE SHELF's CONTRACTS AT THIS DUMP, IN PLAIN WORDS (tools/lay-plain.mjs out of 'Qxb6605804aDoorShelf.lean', which tools/lay-shelf.mjs wrote): THE SAME DECLARATIONS UNDER THE SAME NAMES: 'import', 'namespace', 'open', 'def', 'theorem' AND NOTHING ELSE: no command of the shelf's: FOR A HAND-IN. Each laying: the table of numbers ('.._ren') and one theorem, a field a fact of the dump's own or the kernel's comparison; each contract: ONE APPLICATION.
-/
import Derived.Shelf.Strconv.AppendIntPublic10
import Derived.Ground.NamesProg
import Derived.Test.Qxb6605804aDoorRows
namespace Go.Proofs
open Go.Shelf
def Tryd.laysM176_ren : Go.Shelf.Ren := ⟨fun | 176 => 12 | 249 => 13 | 288 => 14 | 283 => 15 | 284 => 16 | 285 => 17 | 286 => 18 | 129 => 20 | 317 => 19 | 318 => 21 | 319 => 22 | 320 => 23 | 337 => 24 | 338 => 25 | n => n, fun | 37 => 22 | 2 => 2 | 3 => 3 | 53 => 27 | 4 => 4 | 9 => 9 | 171 => 32 | 0 => 0 | 173 => 35 | 212 => 39 | 51 => 40 | 5 => 5 | 20 => 20 | 213 => 41 | 46 => 43 | 232 => 46 | 233 => 47 | n => n, fun | 17 => 0 | 18 => 1 | 19 => 2 | n => n⟩
theorem Tryd.laysM176 : Go.Proofs.LaysM.n176 Tryd.prog Tryd.laysM176_ren := {
  mixed := by kernel_rfl
  f129 := Tryd.func20.trans (congrArg some (by kernel_rfl))
  f176 := Tryd.func12.trans (congrArg some (by kernel_rfl))
  f249 := Tryd.func13.trans (congrArg some (by kernel_rfl))
  f283 := Tryd.func15.trans (congrArg some (by kernel_rfl))
  f284 := Tryd.func16.trans (congrArg some (by kernel_rfl))
  f285 := Tryd.func17.trans (congrArg some (by kernel_rfl))
  f286 := Tryd.func18.trans (congrArg some (by kernel_rfl))
  f288 := Tryd.func14.trans (congrArg some (by kernel_rfl))
  f317 := Tryd.func19.trans (congrArg some (by kernel_rfl))
  f318 := Tryd.func21.trans (congrArg some (by kernel_rfl))
  f319 := Tryd.func22.trans (congrArg some (by kernel_rfl))
  f320 := Tryd.func23.trans (congrArg some (by kernel_rfl))
  f337 := Tryd.func24.trans (congrArg some (by kernel_rfl))
  f338 := Tryd.func25.trans (congrArg some (by kernel_rfl))
  t0 := Tryd.underlying0
  a0 := Tryd.isAgg0
  z0 := Tryd.sizeOf0
  v0 := Tryd.zeroValue0
  t2 := Tryd.underlying2
  a2 := Tryd.isAgg2
  z2 := Tryd.sizeOf2
  v2 := Tryd.zeroValue2
  t3 := Tryd.underlying3
  a3 := Tryd.isAgg3
  z3 := Tryd.sizeOf3
  v3 := Tryd.zeroValue3
  t4 := Tryd.underlying4
  a4 := Tryd.isAgg4
  z4 := Tryd.sizeOf4
  v4 := Tryd.zeroValue4
  t5 := Tryd.underlying5
  a5 := Tryd.isAgg5
  z5 := Tryd.sizeOf5
  v5 := Tryd.zeroValue5
  t9 := Tryd.underlying9
  a9 := Tryd.isAgg9
  z9 := Tryd.sizeOf9
  v9 := Tryd.zeroValue9
  t20 := Tryd.underlying20
  a20 := Tryd.isAgg20
  z20 := Tryd.sizeOf20
  v20 := Tryd.zeroValue20
  t37 := Tryd.underlying22
  a37 := Tryd.isAgg22
  z37 := Tryd.sizeOf22
  v37 := Tryd.zeroValue22
  t46 := Tryd.underlying43
  a46 := Tryd.isAgg43
  z46 := Tryd.sizeOf43
  v46 := Tryd.zeroValue43
  t51 := Tryd.underlying40
  a51 := Tryd.isAgg40
  z51 := Tryd.sizeOf40
  v51 := Tryd.zeroValue40
  t53 := Tryd.underlying27
  a53 := Tryd.isAgg27
  z53 := Tryd.sizeOf27
  v53 := Tryd.zeroValue27
  t171 := Tryd.underlying32
  a171 := Tryd.isAgg32
  z171 := Tryd.sizeOf32
  v171 := Tryd.zeroValue32
  t173 := Tryd.underlying35
  a173 := Tryd.isAgg35
  z173 := Tryd.sizeOf35
  v173 := Tryd.zeroValue35
  t212 := Tryd.underlying39
  a212 := Tryd.isAgg39
  z212 := Tryd.sizeOf39
  v212 := Tryd.zeroValue39
  t213 := Tryd.underlying41
  a213 := Tryd.isAgg41
  z213 := Tryd.sizeOf41
  t232 := Tryd.underlying46
  a232 := Tryd.isAgg46
  z232 := Tryd.sizeOf46
  v232 := Tryd.zeroValue46
  t233 := Tryd.underlying47
  a233 := Tryd.isAgg47
  z233 := Tryd.sizeOf47
  v233 := Tryd.zeroValue47
  g17 := by kernel_rfl
  g18 := by kernel_rfl
  g19 := by kernel_rfl
  i0 := by kernel_rfl
  i2 := by kernel_rfl
  i3 := by kernel_rfl
  i4 := by kernel_rfl
  i5 := by kernel_rfl
  i9 := by kernel_rfl
  i20 := by kernel_rfl
  i37 := by kernel_rfl
  i46 := by kernel_rfl
  i51 := by kernel_rfl
  i53 := by kernel_rfl
  i171 := by kernel_rfl
  i173 := by kernel_rfl
  i212 := by kernel_rfl
  i232 := by kernel_rfl
  i233 := by kernel_rfl
  m17 := by kernel_rfl
  m18 := by kernel_rfl
  m19 := by kernel_rfl }
/-- The name of the table of powers of ten, off the given row. -/
def Qxb6605804aDoor.tabName : String := Qxb6605804aDoor.Rows.fnAppendProcessParsesBackRow.named.headD default
theorem Tryd.strconv_AppendInt_10 (B n : Nat) (i : Int) (h0 : -9223372036854775808 ≤ i) (h1 : i ≤ 9223372036854775807) (sv : Value) (xs : List Value) (w : World) (hown : w.ownsRow B 5 1 sv n xs) (hBw : B ≤ w.heap.size) (hlim : n + 21 ≤ 140737488355328)
    (htab : Lib.TabBelow Tryd.prog B w Qxb6605804aDoor.tabName .u64 Lib.pow10Tab) :
    Calls Tryd.prog 12 #[sv, .int .i64 i, .int .i64 10] w fun e w' => ∃ v', e = .returned v' ∧ w'.ownsRow B 5 1 v' (n + (Lib.itoa i).length) (xs ++ Lib.byteCells (Lib.itoa i)) ∧ RowKit.Below B w w' ∧ Lib.OthersKept 5 none w w' := Any.strconv_AppendInt_10 Tryd.laysM176 B n i h0 h1 sv xs w hown hBw hlim htab
end Go.Proofs
