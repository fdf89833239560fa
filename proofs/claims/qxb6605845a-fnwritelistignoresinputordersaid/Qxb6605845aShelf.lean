/-
  DERIVED: THE SHELF's CONTRACTS AT THIS DUMP, IN PLAIN WORDS (tools/lay-plain.mjs out of 'Qxb6605845aShelf.lean', which tools/lay-shelf.mjs wrote): THE SAME DECLARATIONS UNDER THE SAME NAMES: 'import', 'namespace', 'open', 'def', 'theorem' AND NOTHING ELSE: no command of the shelf's: FOR A HAND-IN. Each laying: the table of numbers ('.._ren') and one theorem, a field a fact of the dump's own or the kernel's comparison; each contract: ONE APPLICATION.
-/
import Derived.Shelf.SlGeneric
import Derived.Shelf.SlSortCmp.NoneTotal
import Derived.Shelf.Small.Strs
import Derived.Ground.SlsfProg
import Derived.Ground.NamesProg
import Derived.Test.Qxb6605845aProg
namespace Go.Proofs
open Go.Shelf
def Try.sortW_ren : Go.Shelf.Ren := ⟨fun | 6 => 34 | 15 => 49 | 14 => 48 | 28 => 60 | 29 => 51 | 20 => 52 | 21 => 53 | 22 => 54 | 23 => 55 | 24 => 56 | 25 => 57 | 26 => 58 | 27 => 59 | 46 => 62 | 47 => 63 | 48 => 64 | 49 => 65 | 50 => 66 | 57 => 68 | n => n, fun | 22 => 32 | 24 => 35 | 25 => 77 | 3 => 3 | 39 => 73 | 0 => 0 | 53 => 98 | 55 => 40 | 4 => 4 | 46 => 92 | 45 => 91 | 50 => 56 | 5 => 5 | 9 => 9 | 66 => 99 | 70 => 103 | 76 => 105 | 77 => 106 | n => n, fun | n => n⟩
theorem Try.sortW : Go.Proofs.SlLaysF0.n6 Try.prog Try.sortW_ren := {
  mixed := by kernel_rfl
  f6 := ⟨Try.f34.name, by decide, Try.func34.trans (congrArg some (by kernel_rfl))⟩
  f14 := ⟨Try.f48.name, by decide, Try.func48.trans (congrArg some (by kernel_rfl))⟩
  f15 := Try.func49.trans (congrArg some (by kernel_rfl))
  f20 := ⟨Try.f52.name, by decide, Try.func52.trans (congrArg some (by kernel_rfl))⟩
  f21 := ⟨Try.f53.name, by decide, Try.func53.trans (congrArg some (by kernel_rfl))⟩
  f22 := ⟨Try.f54.name, by decide, Try.func54.trans (congrArg some (by kernel_rfl))⟩
  f23 := ⟨Try.f55.name, by decide, Try.func55.trans (congrArg some (by kernel_rfl))⟩
  f24 := ⟨Try.f56.name, by decide, Try.func56.trans (congrArg some (by kernel_rfl))⟩
  f25 := ⟨Try.f57.name, by decide, Try.func57.trans (congrArg some (by kernel_rfl))⟩
  f26 := ⟨Try.f58.name, by decide, Try.func58.trans (congrArg some (by kernel_rfl))⟩
  f27 := ⟨Try.f59.name, by decide, Try.func59.trans (congrArg some (by kernel_rfl))⟩
  f28 := Try.func60.trans (congrArg some (by kernel_rfl))
  f29 := Try.func51.trans (congrArg some (by kernel_rfl))
  f46 := ⟨Try.f62.name, by decide, Try.func62.trans (congrArg some (by kernel_rfl))⟩
  f47 := Try.func63.trans (congrArg some (by kernel_rfl))
  f48 := Try.func64.trans (congrArg some (by kernel_rfl))
  f49 := ⟨Try.f65.name, by decide, Try.func65.trans (congrArg some (by kernel_rfl))⟩
  f50 := ⟨Try.f66.name, by decide, Try.func66.trans (congrArg some (by kernel_rfl))⟩
  f57 := ⟨Try.f68.name, by decide, Try.func68.trans (congrArg some (by kernel_rfl))⟩
  t0 := Try.underlying0
  a0 := Try.isAgg0
  z0 := Try.sizeOf0
  v0 := Try.zeroValue0
  t3 := Try.underlying3
  a3 := Try.isAgg3
  z3 := Try.sizeOf3
  v3 := Try.zeroValue3
  t4 := Try.underlying4
  a4 := Try.isAgg4
  z4 := Try.sizeOf4
  v4 := Try.zeroValue4
  t5 := Try.underlying5
  a5 := Try.isAgg5
  z5 := Try.sizeOf5
  v5 := Try.zeroValue5
  t9 := Try.underlying9
  a9 := Try.isAgg9
  z9 := Try.sizeOf9
  v9 := Try.zeroValue9
  t22 := Try.underlying32
  a22 := Try.isAgg32
  z22 := Try.sizeOf32
  v22 := Try.zeroValue32
  t25 := Try.underlying77
  a25 := Try.isAgg77
  z25 := Try.sizeOf77
  v25 := Try.zeroValue77
  t39 := Try.underlying73
  a39 := Try.isAgg73
  z39 := Try.sizeOf73
  v39 := Try.zeroValue73
  t45 := Try.underlying91
  a45 := Try.isAgg91
  z45 := Try.sizeOf91
  v45 := Try.zeroValue91
  t46 := Try.underlying92
  a46 := Try.isAgg92
  z46 := Try.sizeOf92
  v46 := Try.zeroValue92
  t50 := Try.underlying56
  a50 := Try.isAgg56
  z50 := Try.sizeOf56
  v50 := Try.zeroValue56
  t53 := Try.underlying98
  a53 := Try.isAgg98
  z53 := Try.sizeOf98
  v53 := Try.zeroValue98
  t55 := Try.underlying40
  a55 := Try.isAgg40
  z55 := Try.sizeOf40
  v55 := Try.zeroValue40
  t66 := Try.underlying99
  a66 := Try.isAgg99
  z66 := Try.sizeOf99
  v66 := Try.zeroValue99
  t70 := Try.underlying103
  a70 := Try.isAgg103
  z70 := Try.sizeOf103
  v70 := Try.zeroValue103
  t76 := Try.underlying105
  a76 := Try.isAgg105
  z76 := Try.sizeOf105
  v76 := Try.zeroValue105
  t77 := Try.underlying106
  a77 := Try.isAgg106
  z77 := Try.sizeOf106
  v77 := Try.zeroValue106 }
def Try.lays106_ren : Go.Shelf.Ren := ⟨fun | 106 => 50 | 213 => 61 | 265 => 67 | n => n, fun | 9 => 9 | 3 => 3 | n => n, fun | n => n⟩
theorem Try.lays106 : Go.Proofs.Lays.n106 Try.prog Try.lays106_ren := {
  mixed := by kernel_rfl
  f106 := Try.func50.trans (congrArg some (by kernel_rfl))
  f213 := Try.func61.trans (congrArg some (by kernel_rfl))
  f265 := Try.func67.trans (congrArg some (by kernel_rfl))
  t3 := Try.underlying3
  a3 := Try.isAgg3
  z3 := Try.sizeOf3
  v3 := Try.zeroValue3
  t9 := Try.underlying9
  a9 := Try.isAgg9
  z9 := Try.sizeOf9
  v9 := Try.zeroValue9 }
theorem Try.strings_Compare (a b : ByteArray) (w : World) :
    Calls Try.prog 50 #[.string a, .string b] w fun e w' => e = .returned (.int .i64 (Lib.compareBytes a.data.toList b.data.toList)) ∧ w' = w := Any.strings_Compare Try.lays106 a b w
end Go.Proofs
