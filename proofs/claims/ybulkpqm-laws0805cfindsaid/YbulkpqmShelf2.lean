/-
  DERIVED: THE SHELF's CONTRACTS AT THIS DUMP, IN PLAIN WORDS (tools/lay-plain.mjs out of 'YbulkpqmShelf2.lean', which tools/lay-shelf.mjs wrote): THE SAME DECLARATIONS UNDER THE SAME NAMES: 'import', 'namespace', 'open', 'def', 'theorem' AND NOTHING ELSE: no command of the shelf's: FOR A HAND-IN. Each laying: the table of numbers ('.._ren') and one theorem, a field a fact of the dump's own or the kernel's comparison; each contract: ONE APPLICATION.
-/
import Derived.Shelf.SlCmpFuncs.BinarySearchFunc
import Derived.Test.YbulkpqmProg
namespace Go.Proofs
open Go.Shelf
def Yba.searchF_ren : Go.Shelf.Ren := ⟨fun | 14 => 19 | n => n, fun | 22 => 26 | 24 => 21 | 29 => 9 | 32 => 66 | 3 => 3 | 4 => 4 | 35 => 70 | 0 => 0 | n => n, fun | n => n⟩
theorem Yba.searchF : Go.Proofs.SlLaysG2.n14 Yba.prog Yba.searchF_ren := {
  mixed := by kernel_rfl
  f14 := ⟨Yba.f19.name, by decide, Yba.func19.trans (congrArg some (by kernel_rfl))⟩
  t0 := Yba.underlying0
  a0 := Yba.isAgg0
  z0 := Yba.sizeOf0
  v0 := Yba.zeroValue0
  t3 := Yba.underlying3
  a3 := Yba.isAgg3
  z3 := Yba.sizeOf3
  v3 := Yba.zeroValue3
  t4 := Yba.underlying4
  a4 := Yba.isAgg4
  z4 := Yba.sizeOf4
  v4 := Yba.zeroValue4
  t22 := Yba.underlying26
  a22 := Yba.isAgg26
  z22 := Yba.sizeOf26
  v22 := Yba.zeroValue26
  a24 := Yba.isAgg21
  z24 := Yba.sizeOf21
  a29 := Yba.isAgg9
  z29 := Yba.sizeOf9
  t32 := Yba.underlying66
  a32 := Yba.isAgg66
  z32 := Yba.sizeOf66
  v32 := Yba.zeroValue66
  t35 := Yba.underlying70
  a35 := Yba.isAgg70
  z35 := Yba.sizeOf70
  v35 := Yba.zeroValue70 }
end Go.Proofs
