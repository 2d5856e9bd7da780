/-
  DERIVED: THE SHELF's CONTRACTS AT THIS DUMP, IN PLAIN WORDS (tools/lay-plain.mjs out of the seat's shelf, which tools/lay-shelf.mjs wrote): THE SAME DECLARATIONS UNDER THE SAME NAMES: 'import', 'namespace', 'open', 'def', 'theorem' AND NOTHING ELSE: no command of the shelf's: FOR A HAND-IN. Each laying: the table of numbers ('.._ren') and one theorem, a field a fact of the dump's own or the kernel's comparison; each contract: ONE APPLICATION.
-/
import Derived.Shelf.Spec.EncodeRune
import Derived.Shelf.Spec.EncodeRune
import Derived.Test.YtnpchkohfomagaaDoorProg
namespace Go.Proofs
open Go.Shelf
def Tryd.lays7_47_ren : Go.Shelf.Ren := ⟨fun | 47 => 103 | n => n, fun | 30 => 49 | 21 => 21 | 3 => 3 | 27 => 95 | 4 => 4 | 0 => 0 | 5 => 5 | 25 => 54 | n => n, fun | n => n⟩
theorem Tryd.lays7_47 : Go.Proofs.Lays7.n47 Tryd.prog Tryd.lays7_47_ren := {
  mixed := by kernel_rfl
  f47 := Tryd.func103.trans (congrArg some (by kernel_rfl))
  t0 := Tryd.underlying0
  a0 := Tryd.isAgg0
  z0 := Tryd.sizeOf0
  v0 := Tryd.zeroValue0
  i0 := by kernel_rfl
  t3 := Tryd.underlying3
  a3 := Tryd.isAgg3
  z3 := Tryd.sizeOf3
  v3 := Tryd.zeroValue3
  i3 := by kernel_rfl
  t4 := Tryd.underlying4
  a4 := Tryd.isAgg4
  z4 := Tryd.sizeOf4
  v4 := Tryd.zeroValue4
  i4 := by kernel_rfl
  t5 := Tryd.underlying5
  a5 := Tryd.isAgg5
  z5 := Tryd.sizeOf5
  v5 := Tryd.zeroValue5
  i5 := by kernel_rfl
  t21 := Tryd.underlying21
  a21 := Tryd.isAgg21
  z21 := Tryd.sizeOf21
  v21 := Tryd.zeroValue21
  i21 := by kernel_rfl
  t25 := Tryd.underlying54
  a25 := Tryd.isAgg54
  z25 := Tryd.sizeOf54
  v25 := Tryd.zeroValue54
  i25 := by kernel_rfl
  t27 := Tryd.underlying95
  a27 := Tryd.isAgg95
  z27 := Tryd.sizeOf95
  v27 := Tryd.zeroValue95
  i27 := by kernel_rfl
  t30 := Tryd.underlying49
  a30 := Tryd.isAgg49
  z30 := Tryd.sizeOf49
  v30 := Tryd.zeroValue49
  i30 := by kernel_rfl }
def Tryd.lays7_30_ren : Go.Shelf.Ren := ⟨fun | 30 => 101 | 47 => 103 | n => n, fun | 30 => 49 | 21 => 21 | 3 => 3 | 27 => 95 | 4 => 4 | 5 => 5 | 0 => 0 | 25 => 54 | n => n, fun | n => n⟩
theorem Tryd.lays7_30 : Go.Proofs.Lays7.n30 Tryd.prog Tryd.lays7_30_ren := {
  mixed := by kernel_rfl
  f30 := Tryd.func101.trans (congrArg some (by kernel_rfl))
  f47 := Tryd.func103.trans (congrArg some (by kernel_rfl))
  t0 := Tryd.underlying0
  a0 := Tryd.isAgg0
  z0 := Tryd.sizeOf0
  v0 := Tryd.zeroValue0
  i0 := by kernel_rfl
  t3 := Tryd.underlying3
  a3 := Tryd.isAgg3
  z3 := Tryd.sizeOf3
  v3 := Tryd.zeroValue3
  i3 := by kernel_rfl
  t4 := Tryd.underlying4
  a4 := Tryd.isAgg4
  z4 := Tryd.sizeOf4
  v4 := Tryd.zeroValue4
  i4 := by kernel_rfl
  t5 := Tryd.underlying5
  a5 := Tryd.isAgg5
  z5 := Tryd.sizeOf5
  v5 := Tryd.zeroValue5
  i5 := by kernel_rfl
  t21 := Tryd.underlying21
  a21 := Tryd.isAgg21
  z21 := Tryd.sizeOf21
  v21 := Tryd.zeroValue21
  i21 := by kernel_rfl
  t25 := Tryd.underlying54
  a25 := Tryd.isAgg54
  z25 := Tryd.sizeOf54
  v25 := Tryd.zeroValue54
  i25 := by kernel_rfl
  t27 := Tryd.underlying95
  a27 := Tryd.isAgg95
  z27 := Tryd.sizeOf95
  v27 := Tryd.zeroValue95
  i27 := by kernel_rfl
  t30 := Tryd.underlying49
  a30 := Tryd.isAgg49
  z30 := Tryd.sizeOf49
  v30 := Tryd.zeroValue49
  i30 := by kernel_rfl }
end Go.Proofs
