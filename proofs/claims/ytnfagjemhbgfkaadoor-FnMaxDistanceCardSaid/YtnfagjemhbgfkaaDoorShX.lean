/-
  DERIVED: THE SHELF's CONTRACTS AT THIS DUMP, IN PLAIN WORDS (tools/lay-plain.mjs out of the seat's shelf, which tools/lay-shelf.mjs wrote): THE SAME DECLARATIONS UNDER THE SAME NAMES: 'import', 'namespace', 'open', 'def', 'theorem' AND NOTHING ELSE: no command of the shelf's: FOR A HAND-IN. Each laying: the table of numbers ('.._ren') and one theorem, a field a fact of the dump's own or the kernel's comparison; each contract: ONE APPLICATION.
-/
import Derived.Shelf.Small.Bits
import Derived.Shelf.SlSortFunc.Xorshift
import Derived.Test.YtnfagjemhbgfkaaDoorProg
namespace Go.Proofs
open Go.Shelf
def Tryd.laysGg36_ren : Go.Shelf.Ren := ⟨fun | 36 => 49 | n => n, fun | 66 => 120 | 51 => 54 | 0 => 0 | 60 => 110 | 41 => 87 | n => n, fun | n => n⟩
theorem Tryd.laysGg36 : Go.Proofs.LaysGg.n36 Tryd.prog Tryd.laysGg36_ren := {
  mixed := by kernel_rfl
  f36 := Tryd.func49.trans (congrArg some (by kernel_rfl))
  t0 := Tryd.underlying0
  a0 := Tryd.isAgg0
  z0 := Tryd.sizeOf0
  v0 := Tryd.zeroValue0
  i0 := by kernel_rfl
  t41 := Tryd.underlying87
  a41 := Tryd.isAgg87
  z41 := Tryd.sizeOf87
  v41 := Tryd.zeroValue87
  i41 := by kernel_rfl
  t51 := Tryd.underlying54
  a51 := Tryd.isAgg54
  z51 := Tryd.sizeOf54
  v51 := Tryd.zeroValue54
  i51 := by kernel_rfl
  t60 := Tryd.underlying110
  a60 := Tryd.isAgg110
  z60 := Tryd.sizeOf110
  v60 := Tryd.zeroValue110
  i60 := by kernel_rfl
  t66 := Tryd.underlying120
  a66 := Tryd.isAgg120
  z66 := Tryd.sizeOf120
  v66 := Tryd.zeroValue120
  i66 := by kernel_rfl }
open Go.RowKit Go.Lib Go.Sort in
/-- '*r ^= *r << 13; *r ^= *r >> 7; *r ^= *r << 17; return uint64(*r)': the cell holds 'xorNextN X' and that is handed back; three draws; nothing else turns. (LAID: no walk: one application.) -/
theorem Tryd.xorshift_Next (rb ro X : Nat) (hX : X < 18446744073709551616) (w : World) (hc : w.cell? ⟨rb, ro, none⟩ = some (.int .u64 X)) (hf : w.frozen? ⟨rb, ro, none⟩ = false) :
    Calls Tryd.prog 49 #[.pointer (some ⟨rb, ro, none⟩)] w fun e w' => e = .returned (.int .u64 (xorNextN X : Nat)) ∧ w' = (w.setCell ⟨rb, ro, none⟩ (.int .u64 (xorNextN X : Nat))).drewN 3 := Any.xorshift_Next Tryd.laysGg36 rb ro X hX w hc hf
def Tryd.laysGg35_ren : Go.Shelf.Ren := ⟨fun | 35 => 48 | 13 => 30 | 24 => 35 | 25 => 36 | n => n, fun | 3 => 3 | 41 => 87 | 49 => 40 | 51 => 54 | 4 => 4 | 5 => 5 | 9 => 9 | n => n, fun | n => n⟩
theorem Tryd.laysGg35 : Go.Proofs.LaysGg.n35 Tryd.prog Tryd.laysGg35_ren := {
  mixed := by kernel_rfl
  f13 := Tryd.func30.trans (congrArg some (by kernel_rfl))
  f24 := Tryd.func35.trans (congrArg some (by kernel_rfl))
  f25 := Tryd.func36.trans (congrArg some (by kernel_rfl))
  f35 := Tryd.func48.trans (congrArg some (by kernel_rfl))
  t3 := Tryd.underlying3
  a3 := Tryd.isAgg3
  z3 := Tryd.sizeOf3
  v3 := Tryd.zeroValue3
  i3 := by kernel_rfl
  t4 := Tryd.underlying4
  a4 := Tryd.isAgg4
  z4 := Tryd.sizeOf4
  v4 := Tryd.zeroValue4
  i4 := by kernel_rfl
  t5 := Tryd.underlying5
  a5 := Tryd.isAgg5
  z5 := Tryd.sizeOf5
  v5 := Tryd.zeroValue5
  i5 := by kernel_rfl
  t9 := Tryd.underlying9
  a9 := Tryd.isAgg9
  z9 := Tryd.sizeOf9
  v9 := Tryd.zeroValue9
  i9 := by kernel_rfl
  t41 := Tryd.underlying87
  a41 := Tryd.isAgg87
  z41 := Tryd.sizeOf87
  v41 := Tryd.zeroValue87
  i41 := by kernel_rfl
  t49 := Tryd.underlying40
  a49 := Tryd.isAgg40
  z49 := Tryd.sizeOf40
  v49 := Tryd.zeroValue40
  i49 := by kernel_rfl
  t51 := Tryd.underlying54
  a51 := Tryd.isAgg54
  z51 := Tryd.sizeOf54
  v51 := Tryd.zeroValue54
  i51 := by kernel_rfl }
open Go.RowKit Go.Lib Go.Sort in
/-- 'return 1 << bits.Len(uint(length))'. (LAID: no walk: one application.) -/
theorem Tryd.nextPowerOfTwo (n : Nat) (hn : n < 4611686018427387904) (w : World) :
    Calls Tryd.prog 48 #[.int .i64 n] w fun e w' => e = .returned (.int .u64 ((1 <<< bitsLen n : Nat) : Int)) ∧ w' = w := Any.nextPowerOfTwo Tryd.laysGg35 n hn w
def Tryd.lays125_ren : Go.Shelf.Ren := ⟨fun | 125 => 30 | 128 => 35 | 129 => 36 | n => n, fun | 46 => 87 | 3 => 3 | 51 => 40 | 53 => 54 | 4 => 4 | 5 => 5 | 9 => 9 | n => n, fun | n => n⟩
theorem Tryd.lays125 : Go.Proofs.Lays.n125 Tryd.prog Tryd.lays125_ren := {
  mixed := by kernel_rfl
  f125 := Tryd.func30.trans (congrArg some (by kernel_rfl))
  f128 := Tryd.func35.trans (congrArg some (by kernel_rfl))
  f129 := Tryd.func36.trans (congrArg some (by kernel_rfl))
  t3 := Tryd.underlying3
  a3 := Tryd.isAgg3
  z3 := Tryd.sizeOf3
  v3 := Tryd.zeroValue3
  t4 := Tryd.underlying4
  a4 := Tryd.isAgg4
  z4 := Tryd.sizeOf4
  v4 := Tryd.zeroValue4
  t5 := Tryd.underlying5
  a5 := Tryd.isAgg5
  z5 := Tryd.sizeOf5
  v5 := Tryd.zeroValue5
  t9 := Tryd.underlying9
  a9 := Tryd.isAgg9
  z9 := Tryd.sizeOf9
  v9 := Tryd.zeroValue9
  t46 := Tryd.underlying87
  a46 := Tryd.isAgg87
  z46 := Tryd.sizeOf87
  v46 := Tryd.zeroValue87
  t51 := Tryd.underlying40
  a51 := Tryd.isAgg40
  z51 := Tryd.sizeOf40
  v51 := Tryd.zeroValue40
  t53 := Tryd.underlying54
  a53 := Tryd.isAgg54
  z53 := Tryd.sizeOf54
  v53 := Tryd.zeroValue54 }
/-- bits.Len: "Len returns the minimum number of bits required to represent x; the result is 0 for x == 0.": IT RETURNS 'Lib.bitLen x'; the world is as it was. (A uint has 64 bits in the model.) ITS CALLEE bits.Len64 IS MET BY ITS OWN CONTRACT OFF THE SHELF (lay that first). (LAID: no walk: one application.) -/
theorem Tryd.bits_Len (x : Int) (w : World) (h0 : 0 ≤ x) (h1 : x ≤ 18446744073709551615) :
    Calls Tryd.prog 30 #[.int .u64 x] w fun e w' => e = .returned (.int .i64 (Lib.bitLen x.toNat)) ∧ w' = w := Any.bits_Len Tryd.lays125 x w h0 h1
end Go.Proofs
