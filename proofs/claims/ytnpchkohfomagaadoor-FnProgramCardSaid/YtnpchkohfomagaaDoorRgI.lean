/- The spec's own programs (plain): what is made of any instructions. -/
import Derived.Test.YtnpchkohfomagaaDoorRgS
namespace Go.Rg
set_option linter.unusedVariables false
/-- An instruction as it comes in. -/
structure Raw where
  op : Int
  to : Nat
  a : Nat
  b : Nat
  lo : Nat
  hi : Nat
def Raw.zero : Raw := ⟨0, 0, 0, 0, 0, 0⟩
def Raw.In (x : Raw) : In := ⟨x.op.toNat, x.to, x.a, x.b, x.lo, x.hi⟩
def size30 (raw : List Raw) : Nat := max 1 (min raw.length 30)
/-- The kind of an instruction. -/
def kind4 (x : Int) : Nat := ((x % 18446744073709551616) % 4).toNat
theorem kind4_lt (x : Int) : kind4 x < 4 := by unfold kind4; omega
def opOf (n k : Nat) (x : Int) : Nat := if k = n - 1 ∧ kind4 x = 3 then 0 else kind4 x
theorem opOf_lt (n k : Nat) (x : Int) : opOf n k x < 4 := by unfold opOf; split <;> first | omega | exact kind4_lt x
def fix (n k : Nat) (x : Raw) : In := ⟨opOf n k x.op, x.to % n, x.a % n, x.b % n, x.lo, x.hi⟩
def prgTo (raw : List Raw) (k : Nat) : List In := (List.range k).map fun i => fix (size30 raw) i (raw[i]?.getD Raw.zero)
def prg (raw : List Raw) : List In := prgTo raw (size30 raw)
theorem prgTo_zero (raw : List Raw) : prgTo raw 0 = [] := rfl
theorem prgTo_succ (raw : List Raw) (k : Nat) : prgTo raw (k + 1) = prgTo raw k ++ [fix (size30 raw) k (raw[k]?.getD Raw.zero)] := by simp [prgTo, List.range_succ]
theorem prgTo_len (raw : List Raw) (k : Nat) : (prgTo raw k).length = k := by simp [prgTo]
theorem size30_le (raw : List Raw) : 1 ≤ size30 raw ∧ size30 raw ≤ 30 := by unfold size30; omega
theorem prg_len (raw : List Raw) : (prg raw).length = size30 raw := prgTo_len _ _
theorem prg_at {raw : List Raw} {k : Nat} {i : In} (h : (prg raw)[k]? = some i) : k < size30 raw ∧ i = fix (size30 raw) k (raw[k]?.getD Raw.zero) := by
  have hk := (List.getElem?_eq_some_iff.mp h).1
  rw [prg_len] at hk
  refine ⟨hk, ?_⟩
  simp only [prg, prgTo, List.getElem?_map, List.getElem?_range hk, Option.map_some, Option.some.injEq] at h
  exact h.symm
theorem prg_sound (raw : List Raw) : Sound (prg raw) := by
  intro k i h
  obtain ⟨hk, rfl⟩ := prg_at h
  have h1 := (size30_le raw).1
  rw [prg_len]
  refine ⟨fun _ => Nat.mod_lt _ h1, fun _ => ⟨Nat.mod_lt _ h1, Nat.mod_lt _ h1⟩, fun h3 => ?_, Nat.le_of_lt_succ (opOf_lt _ _ _)⟩
  have h3' : opOf (size30 raw) k (raw[k]?.getD Raw.zero).op = 3 := h3
  unfold opOf at h3'
  split at h3'
  · cases h3'
  · rename_i hn
    have : k ≠ size30 raw - 1 := fun e => hn ⟨e, h3'⟩
    omega
theorem prg_pos (raw : List Raw) : 0 < (prg raw).length := by rw [prg_len]; exact (size30_le raw).1
theorem prg_bytes {raw : List Raw} (h : ∀ x ∈ raw, x.lo < 256 ∧ x.hi < 256) {k : Nat} {i : In} (hi : (prg raw)[k]? = some i) : i.lo < 256 ∧ i.hi < 256 := by
  obtain ⟨hk, rfl⟩ := prg_at hi
  show (raw[k]?.getD Raw.zero).lo < 256 ∧ (raw[k]?.getD Raw.zero).hi < 256
  cases e : raw[k]? with
  | none => exact ⟨by decide, by decide⟩
  | some x => exact h x (List.mem_of_getElem? e)
/-- How many take a byte or match: by counting up. -/
def takTo (l : List In) (k : Nat) : Nat := ((List.range k).filter (takes l)).length
theorem takTo_zero (l : List In) : takTo l 0 = 0 := rfl
theorem takTo_succ (l : List In) (k : Nat) : takTo l (k + 1) = takTo l k + (if takes l k then 1 else 0) := by
  unfold takTo
  rw [List.range_succ, List.filter_append, List.length_append]
  by_cases h : takes l k = true
  · simp [h]
  · simp [h]
theorem takTo_all (l : List In) : takTo l l.length = (taking l).length := rfl
theorem takTo_le (l : List In) (k : Nat) : takTo l k ≤ k := by
  unfold takTo
  exact Nat.le_trans (List.length_filter_le _ _) (by simp)
end Go.Rg
