import Derived.Test.YtjnfhcagfgbmnaaRows
import Derived.WalkKit
import Derived.ProofKit
import Derived.OpenShut
import Derived.ShutString
import Derived.Below
import Derived.ChangeOld
import Derived.Lib.Hide
import Derived.Deep.QuietTactic
import Derived.BigQuiet
import Derived.Laws.BitsAllLaws
import Derived.WalkSmall
namespace Go.Proofs.Ytjnfhcagfgbmnaa.Chi
open Go.ChangeShapes Go.WideShapes Go.ChangeAt Go.RowKit
set_option linter.unusedVariables false
def chiK (l : List Int) (c : Int) : Nat → Nat
  | 0 => 0
  | k + 1 => if l[k]?.getD 0 = c then chiK l c k ||| 2 ^ k else chiK l c k
theorem chiK_lt (l : List Int) (c : Int) (k : Nat) : chiK l c k < 2 ^ k := by
  induction k with
  | zero => simp [chiK]
  | succ k ih =>
    simp only [chiK]
    split
    · exact Nat.or_lt_two_pow (by omega) (by omega)
    · omega
theorem chiK_bit (l : List Int) (c : Int) (k i : Nat) : (chiK l c k).testBit i = (decide (i < k) && decide (l[i]?.getD 0 = c)) := by
  induction k with
  | zero => simp [chiK]
  | succ k ih =>
    simp only [chiK]
    split
    · rename_i h
      rw [Nat.testBit_or, ih, Nat.testBit_two_pow]
      by_cases e : k = i
      · subst e; simp [h]
      · by_cases h2 : i < k
        · simp [h2, e]; omega
        · simp [h2, e]; omega
    · rename_i h
      rw [ih]
      by_cases e : k = i
      · subst e; simp [h]
      · have : (i < k + 1) = (i < k) := by simp; omega
        simp [this]
theorem or_u64 (x k : Nat) (hk : k < 64) (hx : x < 2 ^ k) : bits BinOp.or IntKind.u64 (x : Int) (IntKind.u64.wrap (2 ^ k)) = ((x ||| 2 ^ k : Nat) : Int) := by
  have hp : (2 : Nat) ^ k ≤ 2 ^ 63 := Nat.pow_le_pow_right (by omega) (by omega)
  have hp2 : (2:Nat)^63 = 9223372036854775808 := by decide
  have e : IntKind.u64.wrap ((2 : Int) ^ k) = ((2 ^ k : Nat) : Int) := by
    have e1 : ((2 : Int) ^ k) = ((2 ^ k : Nat) : Int) := by simp
    rw [IntKind.wrap_u64, e1]
    omega
  rw [e, u64_or_nat _ _ (by omega) (by omega)]
theorem chi_any (a : Addr) (len cap : Nat) (z : List Int) (c : Int) (w : World) (hl : len ≤ 64) (hlc : len ≤ cap) (hz : z.length = cap)
    (hcell : ∀ i, i < z.length → w.cell? (a.add i) = some (.int .i32 (z.getD i 0))) :
    Calls Try.prog 43 #[.slice (some a) len cap, .int .i32 c] w fun e w' => e = .returned (.int .u64 (chiK z c len : Nat)) ∧ w = w' := by
  go_enter Try.func43, Try.ntmps43
  go_wp2
  go_loop [5, 6] (fun x i => ∃ k : Nat, k ≤ len ∧ i = .int .i64 k ∧ x = .int .u64 (chiK z c k : Nat)) (fun _ i => len - (intOf i).toNat)
  case atStart => exact ⟨0, Nat.zero_le _, rfl, rfl⟩
  case round =>
    obtain ⟨k, hk, rfl, rfl⟩ := hrel
    by_cases hlt : k < len
    · have hc := hcell k (by omega)
      have HB : Hid _ := Lib.hid (or_u64 (chiK z c k) k (by omega) (chiK_lt z c k))
      by_cases heq : z[k]?.getD 0 = c
      · have HS : Hid (chiK z c (k+1) = chiK z c k ||| 2 ^ k) := Lib.hid (by simp [chiK, heq])
        have hq : (z[k]?.getD 0 == c) = true := by simp [heq]
        have HQ := Lib.hid heq
        clear heq
        go_wp2
        go_round
        case rel => exact ⟨k + 1, by omega, by go_num, by rw [HB.out, HS.out]⟩
        case measure => simp [intOf]; omega
      · have HS : Hid (chiK z c (k+1) = chiK z c k) := Lib.hid (by simp [chiK, heq])
        have hq : (z[k]?.getD 0 == c) = false := by simp [heq]
        go_wp2
        go_round
        case rel => exact ⟨k + 1, by omega, by go_num, by rw [HS.out]⟩
        case measure => simp [intOf]; omega
    · go_wp2
      go_ret
      obtain rfl : k = len := by omega
      exact ⟨by simp, rfl⟩
theorem chi_nil (z : List Int) (c : Int) (w : World) :
    Calls Try.prog 43 #[.slice none 0 0, .int .i32 c] w fun e w' => e = .returned (.int .u64 (chiK z c 0 : Nat)) ∧ w = w' := by
  go_enter Try.func43, Try.ntmps43
  go_wp2
  go_loop [5, 6] (fun x i => i = .int .i64 0 ∧ x = .int .u64 0) (fun _ i => 0)
  case atStart => exact ⟨rfl, rfl⟩
  case round =>
    obtain ⟨rfl, rfl⟩ := hrel
    go_wp2
    go_ret
    exact ⟨by simp [chiK], rfl⟩
theorem chi_wrap (v : Value) (z : List Int) (len : Nat) (c : Int) (w : World) 
    (h : Calls Try.prog 43 #[v, .int .i32 c] w fun e w' => e = .returned (.int .u64 (chiK z c len : Nat)) ∧ w = w') :
    Calls Try.prog 27 #[v, .int .i32 c] w fun e w' => e = .returned (.int .u64 (chiK z c len : Nat)) ∧ w = w' := by
  have H := Lib.hid h
  clear h
  go_enter Try.func27, Try.ntmps27
  go_wp2_with (go_at_call 43; refine H.out.mono ?_; rintro e w' ⟨rfl, rfl⟩)
  go_ret
  exact ⟨by simp, rfl⟩
theorem chi_wrap2 (v : Value) (z : List Int) (len : Nat) (c : Int) (w : World) 
    (h : Calls Try.prog 43 #[v, .int .i32 c] w fun e w' => e = .returned (.int .u64 (chiK z c len : Nat)) ∧ w = w') :
    Calls Try.prog 13 #[v, .int .i32 c] w fun e w' => e = .returned (.int .u64 (chiK z c len : Nat)) ∧ w = w' := by
  have H := Lib.hid (chi_wrap v z len c w h)
  clear h
  go_enter Try.func13, Try.ntmps13
  go_wp2_with (go_at_call 27; refine H.out.mono ?_; rintro e w' ⟨rfl, rfl⟩)
  go_ret
  exact ⟨by simp, rfl⟩
theorem and_bit (x k : Nat) (hx : x < 18446744073709551616) : (bits BinOp.and IntKind.u64 ((x : Int) / 2 ^ k) 1 == 1) = x.testBit k := by
  have e1 : ((x : Int) / 2 ^ k) = ((x / 2 ^ k : Nat) : Int) := by
    rw [Int.natCast_ediv]; simp
  have hx2 : x / 2 ^ k < 18446744073709551616 := Nat.lt_of_le_of_lt (Nat.div_le_self _ _) hx
  rw [e1]
  have e2 := u64_and_nat (x / 2 ^ k) 1 hx2 (by omega)
  have e3 : ((1 : Nat) : Int) = 1 := rfl
  rw [e3] at e2
  rw [e2, nat_mask1, Nat.testBit_eq_decide_div_mod_eq, Bool.eq_iff_iff]
  simp
  omega
theorem chi_test (z : List Int) (c : Int) (len k : Nat) (hl : len ≤ 64) : (bits BinOp.and IntKind.u64 (((chiK z c len : Nat) : Int) / 2 ^ k) 1 == 1) = (decide (k < len) && (z[k]?.getD 0 == c)) := by
  have h1 := chiK_lt z c len
  have hp : (2 : Nat) ^ len ≤ 2 ^ 64 := Nat.pow_le_pow_right (by omega) hl
  have hp2 : (2:Nat)^64 = 18446744073709551616 := by decide
  rw [and_bit _ _ (by omega), chiK_bit]
  congr 1
theorem body (a : Option Addr) (len cap : Nat) (z : List Int) (c : Int) (w : World) (hl : len ≤ 64) (hlc : len ≤ cap) (hz : z.length = cap)
    (hcell : ∀ i, i < len → ∃ x, a = some x ∧ w.cell? (x.add i) = some (.int .i32 (z.getD i 0)))
    (h : Calls Try.prog 43 #[.slice a len cap, .int .i32 c] w fun e w' => e = .returned (.int .u64 (chiK z c len : Nat)) ∧ w = w') :
    Calls Try.prog 5 #[.slice a len cap, .int .i32 c] w fun e w' => e = .returned (.bool true) ∧ Below w.heap.size w w' := by
  have H := Lib.hid (chi_wrap2 _ z len c w h)
  clear h
  go_enter Try.func5, Try.ntmps5
  go_wp2_with (go_at_call 13; refine H.out.mono ?_; rintro e w' ⟨rfl, rfl⟩)
  go_loopw [6] (fun i wr => ∃ k : Nat, k ≤ 64 ∧ i = .int .i64 k ∧ ∃ n, wr = w.drewN n) (fun i _ => 64 - (intOf i).toNat)
  case atStart => exact ⟨0, Nat.zero_le _, rfl, 0, rfl⟩
  case round =>
    obtain ⟨k, hk, rfl, nq, rfl⟩ := hrel
    by_cases hk2 : k < 64
    · by_cases hlt : k < len
      · obtain ⟨x, rfl, hc⟩ := hcell k hlt
        have ht : (bits BinOp.and IntKind.u64 (((chiK z c len : Nat) : Int) / 2 ^ k) 1 == 1) = (z[k]?.getD 0 == c) := by rw [chi_test _ _ _ _ hl]; simp [hlt]
        clear hcell
        go_wp2
        go_quiet (fail)
        go_wp2
        go_roundw
        case rel => exact ⟨k + 1, by omega, by go_num, _, rfl⟩
        case measure => simp [intOf]; omega
      · have ht : (bits BinOp.and IntKind.u64 (((chiK z c len : Nat) : Int) / 2 ^ k) 1 == 1) = false := by rw [chi_test _ _ _ _ hl]; simp [hlt]
        clear hcell
        go_wp2
        go_quiet (fail)
        go_wp2
        go_roundw
        case rel => exact ⟨k + 1, by omega, by go_num, _, rfl⟩
        case measure => simp [intOf]; omega
    · go_wp2
      go_ret
      exact ⟨by simp, below_drewN (Below.refl _ _) _⟩
theorem big (a : Option Addr) (len cap : Nat) (c : Int) (w : World) (hl : 64 < len) :
    Calls Try.prog 5 #[.slice a len cap, .int .i32 c] w fun e w' => e = .returned (.bool true) ∧ Below w.heap.size w w' := by
  by_cases h : len ≤ 2147483647
  · go_enter Try.func5, Try.ntmps5
    go_wp2
    go_ret
    exact ⟨by simp, Below.refl _ _⟩
  · go_enter Try.func5, Try.ntmps5
    go_wp2
    go_ret
    exact ⟨by simp, Below.refl _ _⟩
end Go.Proofs.Ytjnfhcagfgbmnaa.Chi
