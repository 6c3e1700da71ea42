/-
  DERIVED: THE SHELF's CONTRACTS AT THIS DUMP, IN PLAIN WORDS (tools/lay-plain.mjs out of 'Qxb6615015aShelf.lean', which tools/lay-shelf.mjs wrote): THE SAME DECLARATIONS UNDER THE SAME NAMES: 'import', 'namespace', 'open', 'def', 'theorem' AND NOTHING ELSE: no command of the shelf's: FOR A HAND-IN. Each laying: the table of numbers ('.._ren') and one theorem, a field a fact of the dump's own or the kernel's comparison; each contract: ONE APPLICATION.
-/
import Derived.Shelf.GgClosure.StringsIndexFuncTop
import Derived.Test.Qxb6615015aProg
namespace Go.Proofs
open Go.Shelf
def Try.l17_ren : Go.Shelf.Ren := ⟨fun | 17 => 13 | 15 => 16 | 20 => 17 | n => n, fun | 9 => 9 | 23 => 30 | 4 => 4 | 3 => 3 | 0 => 0 | 21 => 21 | n => n, fun | n => n⟩
theorem Try.l17 : Go.Proofs.LaysGw.n17 Try.prog Try.l17_ren := {
  mixed := by kernel_rfl
  f15 := Try.func16.trans (congrArg some (by kernel_rfl))
  f17 := Try.func13.trans (congrArg some (by kernel_rfl))
  f20 := Try.func17.trans (congrArg some (by kernel_rfl))
  t0 := Try.underlying0
  a0 := Try.isAgg0
  z0 := Try.sizeOf0
  v0 := Try.zeroValue0
  i0 := by kernel_rfl
  t3 := Try.underlying3
  a3 := Try.isAgg3
  z3 := Try.sizeOf3
  v3 := Try.zeroValue3
  i3 := by kernel_rfl
  t4 := Try.underlying4
  a4 := Try.isAgg4
  z4 := Try.sizeOf4
  v4 := Try.zeroValue4
  i4 := by kernel_rfl
  t9 := Try.underlying9
  a9 := Try.isAgg9
  z9 := Try.sizeOf9
  v9 := Try.zeroValue9
  i9 := by kernel_rfl
  t21 := Try.underlying21
  a21 := Try.isAgg21
  z21 := Try.sizeOf21
  v21 := Try.zeroValue21
  i21 := by kernel_rfl
  t23 := Try.underlying30
  a23 := Try.isAgg30
  z23 := Try.sizeOf30
  v23 := Try.zeroValue30
  i23 := by kernel_rfl }
end Go.Proofs
