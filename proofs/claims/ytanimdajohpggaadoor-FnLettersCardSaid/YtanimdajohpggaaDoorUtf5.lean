/- The bits of the places of a letter: plain. -/
import Derived.Test.YtanimdajohpggaaDoorUtf4
namespace Go.Proofs.YtanimdajohpggaaDoor.Utf0
open Go.Utf
set_option linter.unusedVariables false
/-- Bit k is set just if letter k is c. -/
def bitsOf (c : Int) : List Int → Nat
  | [] => 0
  | q :: r => (if q = c then 1 else 0) + 2 * bitsOf c r
theorem bitsOf_lt (c : Int) (l : List Int) : bitsOf c l < 2 ^ l.length := by
  induction l with
  | nil => simp [bitsOf]
  | cons q r ih =>
    rw [bitsOf, List.length_cons, Nat.pow_succ]
    split <;> omega
theorem bitsOf_test (c : Int) (l : List Int) (k : Nat) : (bitsOf c l).testBit k = decide (l[k]? = some c) := by
  induction l generalizing k with
  | nil => simp [bitsOf]
  | cons q r ih =>
    cases k with
    | zero =>
      rw [Nat.testBit_zero, bitsOf]
      by_cases h : q = c
      · simp [h]
      · simp [h]
    | succ k =>
      rw [Nat.testBit_succ, bitsOf]
      have : ((if q = c then 1 else 0) + 2 * bitsOf c r) / 2 = bitsOf c r := by split <;> omega
      rw [this, ih k]
      simp
theorem bitsOf_snoc (c : Int) (l : List Int) (q : Int) : bitsOf c (l ++ [q]) = bitsOf c l + if q = c then 2 ^ l.length else 0 := by
  induction l with
  | nil => simp [bitsOf]
  | cons a r ih =>
    rw [List.cons_append, bitsOf, ih, bitsOf, List.length_cons, Nat.pow_succ]
    split <;> split <;> omega
/-- The bit is set by 'or'. -/
theorem bitsOf_or (c : Int) (l : List Int) (q : Int) : bitsOf c (l ++ [q]) = if q = c then bitsOf c l ||| 2 ^ l.length else bitsOf c l := by
  rw [bitsOf_snoc]
  split
  · have h := Nat.two_pow_add_eq_or_of_lt (bitsOf_lt c l) 1
    rw [Nat.mul_one] at h
    rw [Nat.or_comm, ← h, Nat.add_comm]
  · rfl
end Go.Proofs.YtanimdajohpggaaDoor.Utf0
