/- Bits of int32s from 0 on against the masks of 6, 12, 18 bits. No program in sight. -/
import Derived.WalkKit
import Derived.Laws.BitsAllLaws
namespace Go.Trav
open Go.RowKit
theorem ofInt_i32 (a : Nat) (ha : a < 2147483648) : (BitVec.ofInt 32 (a : Int)).toNat = a := by
  rw [BitVec.toNat_ofInt]; omega
theorem nat_high (x k : Nat) (hx : x < 4294967296) (hk : k ≤ 32) : x &&& ((2 ^ (32 - k) - 1) <<< k) = (x >>> k) <<< k := by
  apply Nat.eq_of_testBit_eq
  intro i
  rw [Nat.testBit_and, Nat.testBit_shiftLeft, Nat.testBit_shiftLeft, Nat.testBit_two_pow_sub_one, Nat.testBit_shiftRight]
  by_cases h : k ≤ i
  · have e : k + (i - k) = i := by omega
    rw [e]
    by_cases h2 : i < 32
    · have h3 : i - k < 32 - k := by omega
      simp [h, h3]
    · have h3 : x.testBit i = false := Nat.testBit_lt_two_pow (Nat.lt_of_lt_of_le hx (by
        calc 4294967296 = 2 ^ 32 := by decide
          _ ≤ 2 ^ i := Nat.pow_le_pow_right (by omega) (by omega)))
      simp [h3]
  · simp [h]
theorem nat_or_low (x k : Nat) : x ||| (2 ^ k - 1) = (x >>> k) <<< k + (2 ^ k - 1) := by
  rw [← nat_join k ((x >>> k) <<< k) (2 ^ k - 1) (by rw [Nat.shiftLeft_eq]; exact Nat.mul_mod_left _ _) (by have := Nat.two_pow_pos k; omega)]
  apply Nat.eq_of_testBit_eq
  intro i
  rw [Nat.testBit_or, Nat.testBit_or, Nat.testBit_shiftLeft, Nat.testBit_two_pow_sub_one, Nat.testBit_shiftRight]
  by_cases h : k ≤ i
  · have e : k + (i - k) = i := by omega
    rw [e]
    simp [h]
  · have h2 : i < k := by omega
    simp [h2]
theorem wrap_i32_in {n : Int} (h1 : 0 ≤ n) (h2 : n < 2147483648) : IntKind.i32.wrap n = n := by
  simp [IntKind.wrap, IntKind.bits, IntKind.signed]; omega
theorem i32_and_of (x : Nat) (y : Int) (c r : Nat) (hx : x < 2147483648) (hc : (BitVec.ofInt 32 y).toNat = c) (hr : x &&& c = r) (hr2 : r < 2147483648) : bits .and .i32 (x : Int) y = (r : Int) := by
  show IntKind.i32.wrap ((BitVec.ofInt 32 (x : Int) &&& BitVec.ofInt 32 y).toNat : Int) = _
  rw [BitVec.toNat_and, ofInt_i32 x hx, hc, hr]
  exact wrap_i32_in (by omega) (by omega)
theorem i32_or_of (x : Nat) (y : Int) (c r : Nat) (hx : x < 2147483648) (hc : (BitVec.ofInt 32 y).toNat = c) (hr : x ||| c = r) (hr2 : r < 2147483648) : bits .or .i32 (x : Int) y = (r : Int) := by
  show IntKind.i32.wrap ((BitVec.ofInt 32 (x : Int) ||| BitVec.ofInt 32 y).toNat : Int) = _
  rw [BitVec.toNat_or, ofInt_i32 x hx, hc, hr]
  exact wrap_i32_in (by omega) (by omega)
theorem i32_low6 {x : Int} (h1 : 0 ≤ x) (h2 : x ≤ 1114111) : bits .and .i32 x 63 = x % 64 := by
  obtain ⟨X, rfl⟩ := Int.eq_ofNat_of_zero_le h1
  rw [i32_and_of X 63 63 (X % 64) (by omega) (by decide) (Nat.and_two_pow_sub_one_eq_mod X 6) (by omega)]; rfl
theorem i32_high6 {x : Int} (h1 : 0 ≤ x) (h2 : x ≤ 1114111) : bits .and .i32 x (-64) = 64 * (x / 64) := by
  obtain ⟨X, rfl⟩ := Int.eq_ofNat_of_zero_le h1
  rw [i32_and_of X (-64) 4294967232 ((X >>> 6) <<< 6) (by omega) (by decide) (nat_high X 6 (by omega) (by omega)) (by rw [Nat.shiftLeft_eq, Nat.shiftRight_eq_div_pow]; simp only [Nat.reducePow]; omega)]
  rw [Nat.shiftLeft_eq, Nat.shiftRight_eq_div_pow]; simp only [Nat.reducePow]; omega
theorem i32_orL6 {x : Int} (h1 : 0 ≤ x) (h2 : x ≤ 1114111) : bits .or .i32 x 63 = 64 * (x / 64) + 63 := by
  obtain ⟨X, rfl⟩ := Int.eq_ofNat_of_zero_le h1
  rw [i32_or_of X 63 63 ((X >>> 6) <<< 6 + 63) (by omega) (by decide) (nat_or_low X 6) (by rw [Nat.shiftLeft_eq, Nat.shiftRight_eq_div_pow]; simp only [Nat.reducePow]; omega)]
  rw [Nat.shiftLeft_eq, Nat.shiftRight_eq_div_pow]; simp only [Nat.reducePow]; omega
theorem i32_not6 : bits .xor .i32 (-1) 63 = -64 := by decide
theorem i32_nots6 : bits .xor .i32 (if IntKind.i32.signed = true then (-1 : Int) else IntKind.i32.max) 63 = -64 := by decide
theorem i32_low12 {x : Int} (h1 : 0 ≤ x) (h2 : x ≤ 1114111) : bits .and .i32 x 4095 = x % 4096 := by
  obtain ⟨X, rfl⟩ := Int.eq_ofNat_of_zero_le h1
  rw [i32_and_of X 4095 4095 (X % 4096) (by omega) (by decide) (Nat.and_two_pow_sub_one_eq_mod X 12) (by omega)]; rfl
theorem i32_high12 {x : Int} (h1 : 0 ≤ x) (h2 : x ≤ 1114111) : bits .and .i32 x (-4096) = 4096 * (x / 4096) := by
  obtain ⟨X, rfl⟩ := Int.eq_ofNat_of_zero_le h1
  rw [i32_and_of X (-4096) 4294963200 ((X >>> 12) <<< 12) (by omega) (by decide) (nat_high X 12 (by omega) (by omega)) (by rw [Nat.shiftLeft_eq, Nat.shiftRight_eq_div_pow]; simp only [Nat.reducePow]; omega)]
  rw [Nat.shiftLeft_eq, Nat.shiftRight_eq_div_pow]; simp only [Nat.reducePow]; omega
theorem i32_orL12 {x : Int} (h1 : 0 ≤ x) (h2 : x ≤ 1114111) : bits .or .i32 x 4095 = 4096 * (x / 4096) + 4095 := by
  obtain ⟨X, rfl⟩ := Int.eq_ofNat_of_zero_le h1
  rw [i32_or_of X 4095 4095 ((X >>> 12) <<< 12 + 4095) (by omega) (by decide) (nat_or_low X 12) (by rw [Nat.shiftLeft_eq, Nat.shiftRight_eq_div_pow]; simp only [Nat.reducePow]; omega)]
  rw [Nat.shiftLeft_eq, Nat.shiftRight_eq_div_pow]; simp only [Nat.reducePow]; omega
theorem i32_not12 : bits .xor .i32 (-1) 4095 = -4096 := by decide
theorem i32_nots12 : bits .xor .i32 (if IntKind.i32.signed = true then (-1 : Int) else IntKind.i32.max) 4095 = -4096 := by decide
theorem i32_low18 {x : Int} (h1 : 0 ≤ x) (h2 : x ≤ 1114111) : bits .and .i32 x 262143 = x % 262144 := by
  obtain ⟨X, rfl⟩ := Int.eq_ofNat_of_zero_le h1
  rw [i32_and_of X 262143 262143 (X % 262144) (by omega) (by decide) (Nat.and_two_pow_sub_one_eq_mod X 18) (by omega)]; rfl
theorem i32_high18 {x : Int} (h1 : 0 ≤ x) (h2 : x ≤ 1114111) : bits .and .i32 x (-262144) = 262144 * (x / 262144) := by
  obtain ⟨X, rfl⟩ := Int.eq_ofNat_of_zero_le h1
  rw [i32_and_of X (-262144) 4294705152 ((X >>> 18) <<< 18) (by omega) (by decide) (nat_high X 18 (by omega) (by omega)) (by rw [Nat.shiftLeft_eq, Nat.shiftRight_eq_div_pow]; simp only [Nat.reducePow]; omega)]
  rw [Nat.shiftLeft_eq, Nat.shiftRight_eq_div_pow]; simp only [Nat.reducePow]; omega
theorem i32_orL18 {x : Int} (h1 : 0 ≤ x) (h2 : x ≤ 1114111) : bits .or .i32 x 262143 = 262144 * (x / 262144) + 262143 := by
  obtain ⟨X, rfl⟩ := Int.eq_ofNat_of_zero_le h1
  rw [i32_or_of X 262143 262143 ((X >>> 18) <<< 18 + 262143) (by omega) (by decide) (nat_or_low X 18) (by rw [Nat.shiftLeft_eq, Nat.shiftRight_eq_div_pow]; simp only [Nat.reducePow]; omega)]
  rw [Nat.shiftLeft_eq, Nat.shiftRight_eq_div_pow]; simp only [Nat.reducePow]; omega
theorem i32_not18 : bits .xor .i32 (-1) 262143 = -262144 := by decide
theorem i32_nots18 : bits .xor .i32 (if IntKind.i32.signed = true then (-1 : Int) else IntKind.i32.max) 262143 = -262144 := by decide
end Go.Trav
