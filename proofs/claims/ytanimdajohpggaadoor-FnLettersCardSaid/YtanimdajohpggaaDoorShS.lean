/-
  DERIVED: THE SHELF's CONTRACTS AT THIS DUMP, IN PLAIN WORDS (tools/lay-plain.mjs out of the seat's shelf, which tools/lay-shelf.mjs wrote): THE SAME DECLARATIONS UNDER THE SAME NAMES: 'import', 'namespace', 'open', 'def', 'theorem' AND NOTHING ELSE: no command of the shelf's: FOR A HAND-IN. Each laying: the table of numbers ('.._ren') and one theorem, a field a fact of the dump's own or the kernel's comparison; each contract: ONE APPLICATION.
-/
import Derived.Shelf.GgSortMore.SortSort
import Derived.Test.YtanimdajohpggaaDoorProg
namespace Go.Proofs
open Go.Shelf
def Tryd.laysGt11_ren : Go.Shelf.Ren := ⟨fun | 11 => 88 | 17 => 96 | 18 => 97 | 31 => 99 | 32 => 100 | 33 => 101 | 34 => 102 | 35 => 103 | 36 => 104 | 37 => 105 | 38 => 106 | 39 => 107 | 40 => 108 | 43 => 109 | 44 => 110 | 45 => 111 | 46 => 112 | 47 => 113 | 50 => 114 | n => n, fun | 45 => 179 | 3 => 3 | 4 => 4 | 47 => 101 | 0 => 0 | 56 => 59 | 58 => 22 | 61 => 189 | 60 => 188 | 65 => 194 | 5 => 5 | 9 => 9 | 67 => 197 | 71 => 201 | 73 => 203 | 74 => 89 | 43 => 154 | 26 => 192 | 38 => 196 | n => n, fun | n => n⟩
theorem Tryd.laysGt11 : Go.Proofs.LaysGt.n11 Tryd.prog Tryd.laysGt11_ren := {
  mixed := by kernel_rfl
  f11 := Tryd.func88.trans (congrArg some (by kernel_rfl))
  f17 := Tryd.func96.trans (congrArg some (by kernel_rfl))
  f18 := Tryd.func97.trans (congrArg some (by kernel_rfl))
  f31 := Tryd.func99.trans (congrArg some (by kernel_rfl))
  f32 := Tryd.func100.trans (congrArg some (by kernel_rfl))
  f33 := Tryd.func101.trans (congrArg some (by kernel_rfl))
  f34 := Tryd.func102.trans (congrArg some (by kernel_rfl))
  f35 := Tryd.func103.trans (congrArg some (by kernel_rfl))
  f36 := Tryd.func104.trans (congrArg some (by kernel_rfl))
  f37 := Tryd.func105.trans (congrArg some (by kernel_rfl))
  f38 := Tryd.func106.trans (congrArg some (by kernel_rfl))
  f39 := Tryd.func107.trans (congrArg some (by kernel_rfl))
  f40 := Tryd.func108.trans (congrArg some (by kernel_rfl))
  f43 := Tryd.func109.trans (congrArg some (by kernel_rfl))
  f44 := Tryd.func110.trans (congrArg some (by kernel_rfl))
  f45 := Tryd.func111.trans (congrArg some (by kernel_rfl))
  f46 := Tryd.func112.trans (congrArg some (by kernel_rfl))
  f47 := Tryd.func113.trans (congrArg some (by kernel_rfl))
  f50 := Tryd.func114.trans (congrArg some (by kernel_rfl))
  t0 := Tryd.underlying0
  a0 := Tryd.isAgg0
  z0 := Tryd.sizeOf0
  v0 := Tryd.zeroValue0
  i0 := by kernel_rfl
  t3 := Tryd.underlying3
  a3 := Tryd.isAgg3
  z3 := Tryd.sizeOf3
  v3 := Tryd.zeroValue3
  i3 := by kernel_rfl
  t4 := Tryd.underlying4
  a4 := Tryd.isAgg4
  z4 := Tryd.sizeOf4
  v4 := Tryd.zeroValue4
  i4 := by kernel_rfl
  t5 := Tryd.underlying5
  a5 := Tryd.isAgg5
  z5 := Tryd.sizeOf5
  v5 := Tryd.zeroValue5
  i5 := by kernel_rfl
  t9 := Tryd.underlying9
  a9 := Tryd.isAgg9
  z9 := Tryd.sizeOf9
  v9 := Tryd.zeroValue9
  i9 := by kernel_rfl
  t26 := Tryd.underlying192
  a26 := Tryd.isAgg192
  z26 := Tryd.sizeOf192
  v26 := Tryd.zeroValue192
  i26 := by kernel_rfl
  t38 := Tryd.underlying196
  a38 := Tryd.isAgg196
  z38 := Tryd.sizeOf196
  v38 := Tryd.zeroValue196
  i38 := by kernel_rfl
  t43 := Tryd.underlying154
  a43 := Tryd.isAgg154
  z43 := Tryd.sizeOf154
  v43 := Tryd.zeroValue154
  i43 := by kernel_rfl
  t45 := Tryd.underlying179
  a45 := Tryd.isAgg179
  z45 := Tryd.sizeOf179
  v45 := Tryd.zeroValue179
  i45 := by kernel_rfl
  t47 := Tryd.underlying101
  a47 := Tryd.isAgg101
  z47 := Tryd.sizeOf101
  v47 := Tryd.zeroValue101
  i47 := by kernel_rfl
  t56 := Tryd.underlying59
  a56 := Tryd.isAgg59
  z56 := Tryd.sizeOf59
  v56 := Tryd.zeroValue59
  i56 := by kernel_rfl
  t58 := Tryd.underlying22
  a58 := Tryd.isAgg22
  z58 := Tryd.sizeOf22
  v58 := Tryd.zeroValue22
  i58 := by kernel_rfl
  t60 := Tryd.underlying188
  a60 := Tryd.isAgg188
  z60 := Tryd.sizeOf188
  v60 := Tryd.zeroValue188
  i60 := by kernel_rfl
  t61 := Tryd.underlying189
  a61 := Tryd.isAgg189
  z61 := Tryd.sizeOf189
  v61 := Tryd.zeroValue189
  i61 := by kernel_rfl
  t65 := Tryd.underlying194
  a65 := Tryd.isAgg194
  z65 := Tryd.sizeOf194
  v65 := Tryd.zeroValue194
  i65 := by kernel_rfl
  t67 := Tryd.underlying197
  a67 := Tryd.isAgg197
  z67 := Tryd.sizeOf197
  v67 := Tryd.zeroValue197
  i67 := by kernel_rfl
  t71 := Tryd.underlying201
  a71 := Tryd.isAgg201
  z71 := Tryd.sizeOf201
  v71 := Tryd.zeroValue201
  i71 := by kernel_rfl
  t73 := Tryd.underlying203
  a73 := Tryd.isAgg203
  z73 := Tryd.sizeOf203
  v73 := Tryd.zeroValue203
  i73 := by kernel_rfl
  t74 := Tryd.underlying89
  a74 := Tryd.isAgg89
  z74 := Tryd.sizeOf89
  v74 := Tryd.zeroValue89
  i74 := by kernel_rfl }
open Go.RowKit Go.Lib Go.Sort in
theorem Tryd.sort_Sort_tiny {α : Type} [Inhabited α] (T : TypeId) (rv : Value) (gn : Nat) (rN : Reaches Tryd.prog T rv "Len" gn) (n : Nat) (hn : n ≤ 1) (w : World) (hlen : LenM Tryd.prog gn rv n w) :
    Calls Tryd.prog 88 #[.iface T rv] w fun e w' => e = .returned (.tuple #[]) ∧ ∃ q, w' = w.drewN q := Any.sort_Sort_tiny Tryd.laysGt11 T rv gn rN n hn w hlen
open Go.RowKit Go.Lib Go.Sort in
/-- **sort.Sort, IN THE DOCUMENTATION's OWN TERMS ("Sort sorts data in ascending order as determined by the Less method. .. The sort is not guaranteed to be stable"): A PERMUTATION OF WHAT THE ROW HELD, SORTED BY 'lt'.** (LAID: no walk: one application.) -/
theorem Tryd.sort_Sort_sorted {α : Type} [Inhabited α] (T : TypeId) (rv : Value) (gn gl gs : Nat) (rN : Reaches Tryd.prog T rv "Len" gn) (rL : Reaches Tryd.prog T rv "Less" gl) (rS : Reaches Tryd.prog T rv "Swap" gs) (enc : α → Value) (lt : α → α → Bool) (hO : SWO lt) (blk off : Nat) (d : Array α) (h2 : 2 ≤ d.size) (hsz : d.size < 4611686018427387904) (w : World) (hlen : LenM Tryd.prog gn rv d.size w) (hless : LessM Tryd.prog gl rv enc lt blk off d.size w) (hswap : SwapM Tryd.prog gs rv enc blk off d.size) (hH : Holds enc w blk off d) (hblk : blk < w.heap.size) :
    Calls Tryd.prog 88 #[.iface T rv] w fun e w' => e = .returned (.tuple #[]) ∧ ∃ d' n os, PermIn 0 d.size d d' ∧ SortedIn lt 0 d.size d' ∧ w' = grow (putRow enc (Sort.ahead w n) blk off d') os := Any.sort_Sort_sorted Tryd.laysGt11 T rv gn gl gs rN rL rS enc lt hO blk off d h2 hsz w hlen hless hswap hH hblk
end Go.Proofs
