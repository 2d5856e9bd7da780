/-
  DERIVED: THE SHELF's CONTRACTS AT THIS DUMP, IN PLAIN WORDS (tools/lay-plain.mjs out of the seat's shelf, which tools/lay-shelf.mjs wrote): THE SAME DECLARATIONS UNDER THE SAME NAMES: 'import', 'namespace', 'open', 'def', 'theorem' AND NOTHING ELSE: no command of the shelf's: FOR A HAND-IN. Each laying: the table of numbers ('.._ren') and one theorem, a field a fact of the dump's own or the kernel's comparison; each contract: ONE APPLICATION.
-/
import Derived.Shelf.Small.Bits
import Derived.Shelf.SlSortFunc.Xorshift
import Derived.Test.YtpkkagiplockiaaProg
namespace Go.Proofs
open Go.Shelf
def Try.laysGg36_ren : Go.Shelf.Ren := ⟨fun | 36 => 56 | n => n, fun | 66 => 107 | 51 => 36 | 0 => 0 | 60 => 101 | 41 => 86 | n => n, fun | n => n⟩
theorem Try.laysGg36 : Go.Proofs.LaysGg.n36 Try.prog Try.laysGg36_ren := {
  mixed := by kernel_rfl
  f36 := Try.func56.trans (congrArg some (by kernel_rfl))
  t0 := Try.underlying0
  a0 := Try.isAgg0
  z0 := Try.sizeOf0
  v0 := Try.zeroValue0
  i0 := by kernel_rfl
  t41 := Try.underlying86
  a41 := Try.isAgg86
  z41 := Try.sizeOf86
  v41 := Try.zeroValue86
  i41 := by kernel_rfl
  t51 := Try.underlying36
  a51 := Try.isAgg36
  z51 := Try.sizeOf36
  v51 := Try.zeroValue36
  i51 := by kernel_rfl
  t60 := Try.underlying101
  a60 := Try.isAgg101
  z60 := Try.sizeOf101
  v60 := Try.zeroValue101
  i60 := by kernel_rfl
  t66 := Try.underlying107
  a66 := Try.isAgg107
  z66 := Try.sizeOf107
  v66 := Try.zeroValue107
  i66 := by kernel_rfl }
open Go.RowKit Go.Lib Go.Sort in
/-- '*r ^= *r << 13; *r ^= *r >> 7; *r ^= *r << 17; return uint64(*r)': the cell holds 'xorNextN X' and that is handed back; three draws; nothing else turns. (LAID: no walk: one application.) -/
theorem Try.xorshift_Next (rb ro X : Nat) (hX : X < 18446744073709551616) (w : World) (hc : w.cell? ⟨rb, ro, none⟩ = some (.int .u64 X)) (hf : w.frozen? ⟨rb, ro, none⟩ = false) :
    Calls Try.prog 56 #[.pointer (some ⟨rb, ro, none⟩)] w fun e w' => e = .returned (.int .u64 (xorNextN X : Nat)) ∧ w' = (w.setCell ⟨rb, ro, none⟩ (.int .u64 (xorNextN X : Nat))).drewN 3 := Any.xorshift_Next Try.laysGg36 rb ro X hX w hc hf
def Try.laysGg35_ren : Go.Shelf.Ren := ⟨fun | 35 => 55 | 13 => 41 | 24 => 44 | 25 => 45 | n => n, fun | 3 => 3 | 41 => 86 | 49 => 23 | 51 => 36 | 4 => 4 | 5 => 5 | 9 => 9 | n => n, fun | n => n⟩
theorem Try.laysGg35 : Go.Proofs.LaysGg.n35 Try.prog Try.laysGg35_ren := {
  mixed := by kernel_rfl
  f13 := Try.func41.trans (congrArg some (by kernel_rfl))
  f24 := Try.func44.trans (congrArg some (by kernel_rfl))
  f25 := Try.func45.trans (congrArg some (by kernel_rfl))
  f35 := Try.func55.trans (congrArg some (by kernel_rfl))
  t3 := Try.underlying3
  a3 := Try.isAgg3
  z3 := Try.sizeOf3
  v3 := Try.zeroValue3
  i3 := by kernel_rfl
  t4 := Try.underlying4
  a4 := Try.isAgg4
  z4 := Try.sizeOf4
  v4 := Try.zeroValue4
  i4 := by kernel_rfl
  t5 := Try.underlying5
  a5 := Try.isAgg5
  z5 := Try.sizeOf5
  v5 := Try.zeroValue5
  i5 := by kernel_rfl
  t9 := Try.underlying9
  a9 := Try.isAgg9
  z9 := Try.sizeOf9
  v9 := Try.zeroValue9
  i9 := by kernel_rfl
  t41 := Try.underlying86
  a41 := Try.isAgg86
  z41 := Try.sizeOf86
  v41 := Try.zeroValue86
  i41 := by kernel_rfl
  t49 := Try.underlying23
  a49 := Try.isAgg23
  z49 := Try.sizeOf23
  v49 := Try.zeroValue23
  i49 := by kernel_rfl
  t51 := Try.underlying36
  a51 := Try.isAgg36
  z51 := Try.sizeOf36
  v51 := Try.zeroValue36
  i51 := by kernel_rfl }
open Go.RowKit Go.Lib Go.Sort in
/-- 'return 1 << bits.Len(uint(length))'. (LAID: no walk: one application.) -/
theorem Try.nextPowerOfTwo (n : Nat) (hn : n < 4611686018427387904) (w : World) :
    Calls Try.prog 55 #[.int .i64 n] w fun e w' => e = .returned (.int .u64 ((1 <<< bitsLen n : Nat) : Int)) ∧ w' = w := Any.nextPowerOfTwo Try.laysGg35 n hn w
def Try.lays125_ren : Go.Shelf.Ren := ⟨fun | 125 => 41 | 128 => 44 | 129 => 45 | n => n, fun | 46 => 86 | 3 => 3 | 51 => 23 | 53 => 36 | 4 => 4 | 5 => 5 | 9 => 9 | n => n, fun | n => n⟩
theorem Try.lays125 : Go.Proofs.Lays.n125 Try.prog Try.lays125_ren := {
  mixed := by kernel_rfl
  f125 := Try.func41.trans (congrArg some (by kernel_rfl))
  f128 := Try.func44.trans (congrArg some (by kernel_rfl))
  f129 := Try.func45.trans (congrArg some (by kernel_rfl))
  t3 := Try.underlying3
  a3 := Try.isAgg3
  z3 := Try.sizeOf3
  v3 := Try.zeroValue3
  t4 := Try.underlying4
  a4 := Try.isAgg4
  z4 := Try.sizeOf4
  v4 := Try.zeroValue4
  t5 := Try.underlying5
  a5 := Try.isAgg5
  z5 := Try.sizeOf5
  v5 := Try.zeroValue5
  t9 := Try.underlying9
  a9 := Try.isAgg9
  z9 := Try.sizeOf9
  v9 := Try.zeroValue9
  t46 := Try.underlying86
  a46 := Try.isAgg86
  z46 := Try.sizeOf86
  v46 := Try.zeroValue86
  t51 := Try.underlying23
  a51 := Try.isAgg23
  z51 := Try.sizeOf23
  v51 := Try.zeroValue23
  t53 := Try.underlying36
  a53 := Try.isAgg36
  z53 := Try.sizeOf36
  v53 := Try.zeroValue36 }
/-- bits.Len: "Len returns the minimum number of bits required to represent x; the result is 0 for x == 0.": IT RETURNS 'Lib.bitLen x'; the world is as it was. (A uint has 64 bits in the model.) ITS CALLEE bits.Len64 IS MET BY ITS OWN CONTRACT OFF THE SHELF (lay that first). (LAID: no walk: one application.) -/
theorem Try.bits_Len (x : Int) (w : World) (h0 : 0 ≤ x) (h1 : x ≤ 18446744073709551615) :
    Calls Try.prog 41 #[.int .u64 x] w fun e w' => e = .returned (.int .i64 (Lib.bitLen x.toNat)) ∧ w' = w := Any.bits_Len Try.lays125 x w h0 h1
end Go.Proofs
