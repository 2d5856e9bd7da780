/- Numbers in few bytes, the lowest first. No program in sight. -/
import Derived.WalkKit
namespace Go.Pk
/-- The last n bytes of v, the lowest first. -/
def packed (v n : Nat) : List Nat := (List.range n).map fun i => v / 256 ^ i % 256
theorem packed_len (v n : Nat) : (packed v n).length = n := by simp [packed]
theorem packed_succ (v n : Nat) : packed v (n + 1) = packed v n ++ [v / 256 ^ n % 256] := by simp [packed, List.range_succ]
theorem packed_lt (v n : Nat) : ∀ x ∈ packed v n, x < 256 := by
  intro x hx
  obtain ⟨i, _, rfl⟩ := List.mem_map.1 hx
  omega
/-- The number that bytes are, the lowest first. -/
def unpacked : List Nat → Nat
  | [] => 0
  | x :: r => x + 256 * unpacked r
theorem unpacked_snoc (l : List Nat) (x : Nat) : unpacked (l ++ [x]) = unpacked l + 256 ^ l.length * x := by
  induction l with
  | nil => simp [unpacked]
  | cons y r ih => simp only [List.cons_append, unpacked, ih, List.length_cons, Nat.pow_succ]; rw [Nat.mul_add, ← Nat.mul_assoc, Nat.mul_comm 256 (256 ^ r.length)]; omega
theorem unpacked_lt (l : List Nat) (h : ∀ x ∈ l, x < 256) : unpacked l < 256 ^ l.length := by
  induction l with
  | nil => simp [unpacked]
  | cons y r ih =>
    have h1 := ih fun x hx => h x (by simp [hx])
    have h2 := h y (by simp)
    simp only [unpacked, List.length_cons, Nat.pow_succ]
    omega
theorem unpacked_packed (v n : Nat) : unpacked (packed v n) = v % 256 ^ n := by
  induction n with
  | zero => simp [packed, unpacked, Nat.mod_one]
  | succ n ih =>
    rw [packed_succ, unpacked_snoc, ih, packed_len, Nat.pow_succ]
    rw [Nat.mod_mul]
theorem unpacked_packed_of_lt {v n : Nat} (h : v < 256 ^ n) : unpacked (packed v n) = v := by rw [unpacked_packed, Nat.mod_eq_of_lt h]
/-- How many bytes a number needs, at least one. -/
def size (n : Nat) : Nat := if n < 256 then 1 else if n < 65536 then 2 else if n < 16777216 then 3 else if n < 4294967296 then 4 else if n < 1099511627776 then 5 else if n < 281474976710656 then 6 else if n < 72057594037927936 then 7 else 8
theorem size_cases (n : Nat) : (n < 256 ∧ size n = 1) ∨ (256 ≤ n ∧ n < 65536 ∧ size n = 2) ∨ (65536 ≤ n ∧ n < 16777216 ∧ size n = 3) ∨ (16777216 ≤ n ∧ n < 4294967296 ∧ size n = 4) ∨ (4294967296 ≤ n ∧ n < 1099511627776 ∧ size n = 5) ∨ (1099511627776 ≤ n ∧ n < 281474976710656 ∧ size n = 6) ∨ (281474976710656 ≤ n ∧ n < 72057594037927936 ∧ size n = 7) ∨ (72057594037927936 ≤ n ∧ size n = 8) := by
  unfold size
  by_cases h1 : n < 256
  · left; exact ⟨h1, by rw [if_pos h1]⟩
  right; rw [if_neg h1]
  by_cases h2 : n < 65536
  · left; exact ⟨by omega, h2, by rw [if_pos h2]⟩
  right; rw [if_neg h2]
  by_cases h3 : n < 16777216
  · left; exact ⟨by omega, h3, by rw [if_pos h3]⟩
  right; rw [if_neg h3]
  by_cases h4 : n < 4294967296
  · left; exact ⟨by omega, h4, by rw [if_pos h4]⟩
  right; rw [if_neg h4]
  by_cases h5 : n < 1099511627776
  · left; exact ⟨by omega, h5, by rw [if_pos h5]⟩
  right; rw [if_neg h5]
  by_cases h6 : n < 281474976710656
  · left; exact ⟨by omega, h6, by rw [if_pos h6]⟩
  right; rw [if_neg h6]
  by_cases h7 : n < 72057594037927936
  · left; exact ⟨by omega, h7, by rw [if_pos h7]⟩
  right; rw [if_neg h7]; exact ⟨by omega, rfl⟩
theorem size_bd (n : Nat) : 1 ≤ size n ∧ size n ≤ 8 := by have := size_cases n; omega
theorem lt_size {n : Nat} (h : n < 18446744073709551616) : n < 256 ^ size n := by
  rcases size_cases n with h1 | h1 | h1 | h1 | h1 | h1 | h1 | h1
  all_goals (first | (obtain ⟨_, h2, h3⟩ := h1; rw [h3]; simp only [Nat.reducePow]; omega) | (obtain ⟨h2, h3⟩ := h1; rw [h3]; simp only [Nat.reducePow]; omega))
theorem size_lt {n : Nat} (h : 2 ≤ size n) : 256 ^ (size n - 1) ≤ n := by
  rcases size_cases n with h1 | h1 | h1 | h1 | h1 | h1 | h1 | h1
  all_goals (first | (obtain ⟨h2, _, h3⟩ := h1; rw [h3]; simp only [Nat.reducePow, Nat.reduceSub]; omega) | (obtain ⟨h2, h3⟩ := h1; rw [h3]; simp only [Nat.reducePow, Nat.reduceSub]; omega))
theorem size_le {n k : Nat} (h : n < 256 ^ k) (hk : 1 ≤ k) : size n ≤ k := by
  rcases Nat.lt_or_ge k (size n) with h1 | h1
  · have h2 := size_lt (n := n) (by omega)
    have h3 : 256 ^ k ≤ 256 ^ (size n - 1) := Nat.pow_le_pow_right (by omega) (by omega)
    omega
  · exact h1
theorem size_mono {a b : Nat} (h : a ≤ b) : size a ≤ size b := by
  have h1 := size_cases a
  have h2 := size_cases b
  omega
/-- Size goes by a division by 256. -/
theorem size_step {n : Nat} (h : 255 < n) (hn : n < 18446744073709551616) : size n = size (n / 256) + 1 := by
  have h1 := size_cases n
  have h2 := size_cases (n / 256)
  omega
theorem size_small {n : Nat} (h : n ≤ 255) : size n = 1 := by unfold size; rw [if_pos (by omega)]
theorem packed_head (v n : Nat) : packed v (n + 1) = v % 256 :: packed (v / 256) n := by
  unfold packed
  rw [List.range_succ_eq_map]
  simp only [List.map_cons, List.map_map, Nat.pow_zero, Nat.div_one]
  congr 1
  apply List.map_congr_left
  intro i _
  simp only [Function.comp, Nat.pow_succ]
  rw [Nat.mul_comm, ← Nat.div_div_eq_div_mul]
end Go.Pk
