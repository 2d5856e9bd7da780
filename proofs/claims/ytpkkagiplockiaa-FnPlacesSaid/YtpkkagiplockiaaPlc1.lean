/- Places: the bits of a letter's places in a query; small functions. -/
import Derived.Test.YtpkkagiplockiaaNfa3
import Derived.Laws.BitsAllLaws
import Derived.Deep.QuietTactic
import Derived.BigQuiet
namespace Go.Proofs.Ytpkkagiplockiaa.Nfa
open Go.ChangeShapes Go.WideShapes Go.ChangeAt Go.RowKit Go.Trav Go.Nor Go.Proofs.Ytpkkagiplockiaa.Srt
set_option linter.unusedVariables false
set_option linter.unusedSimpArgs false
set_option maxRecDepth 100000
def chiK (l : List Int) (c : Int) : Nat → Nat
  | 0 => 0
  | k + 1 => if l[k]?.getD 0 = c then chiK l c k ||| 2 ^ k else chiK l c k
theorem chiK_lt (l : List Int) (c : Int) (k : Nat) : chiK l c k < 2 ^ k := by
  induction k with
  | zero => simp [chiK]
  | succ k ih =>
    simp only [chiK]
    split
    · exact Nat.or_lt_two_pow (by omega) (by omega)
    · omega
theorem chiK_bit (l : List Int) (c : Int) (k i : Nat) : (chiK l c k).testBit i = (decide (i < k) && decide (l[i]?.getD 0 = c)) := by
  induction k with
  | zero => simp [chiK]
  | succ k ih =>
    simp only [chiK]
    split
    · rename_i h
      rw [Nat.testBit_or, ih, Nat.testBit_two_pow]
      by_cases e : k = i
      · subst e; simp [h]
      · by_cases h2 : i < k
        · simp [h2, e]; omega
        · simp [h2, e]; omega
    · rename_i h
      rw [ih]
      by_cases e : k = i
      · subst e; simp [h]
      · have : (i < k + 1) = (i < k) := by simp; omega
        simp [this]
theorem chiK_u64 (l : List Int) (c : Int) (k : Nat) (hk : k ≤ 64) : chiK l c k < 18446744073709551616 := by
  have h1 := chiK_lt l c k
  have hp : (2 : Nat) ^ k ≤ 2 ^ 64 := Nat.pow_le_pow_right (by omega) hk
  have hp2 : (2 : Nat) ^ 64 = 18446744073709551616 := by decide
  omega
theorem or_u64 (x k : Nat) (hk : k < 64) (hx : x < 2 ^ k) : bits BinOp.or IntKind.u64 (x : Int) (IntKind.u64.wrap (2 ^ k)) = ((x ||| 2 ^ k : Nat) : Int) := by
  have hp : (2 : Nat) ^ k ≤ 2 ^ 63 := Nat.pow_le_pow_right (by omega) (by omega)
  have hp2 : (2:Nat)^63 = 9223372036854775808 := by decide
  have e : IntKind.u64.wrap ((2 : Int) ^ k) = ((2 ^ k : Nat) : Int) := by
    have e1 : ((2 : Int) ^ k) = ((2 ^ k : Nat) : Int) := by simp
    rw [IntKind.wrap_u64, e1]
    omega
  rw [e, u64_or_nat _ _ (by omega) (by omega)]
theorem and_bit (x k : Nat) (hx : x < 18446744073709551616) : (bits BinOp.and IntKind.u64 ((x : Int) / 2 ^ k) 1 == 1) = x.testBit k := by
  have e1 : ((x : Int) / 2 ^ k) = ((x / 2 ^ k : Nat) : Int) := by
    rw [Int.natCast_ediv]; simp
  have hx2 : x / 2 ^ k < 18446744073709551616 := Nat.lt_of_le_of_lt (Nat.div_le_self _ _) hx
  rw [e1]
  have e2 := u64_and_nat (x / 2 ^ k) 1 hx2 (by omega)
  have e3 : ((1 : Nat) : Int) = 1 := rfl
  rw [e3] at e2
  rw [e2, nat_mask1, Nat.testBit_eq_decide_div_mod_eq, Bool.eq_iff_iff]
  simp
  omega
set_option maxHeartbeats 2000000 in
theorem chi_any (v : Value) (n : Nat) (l : List Int) (c : Int) (w : World) (h : Reads w v n 1 (l.map (Value.int .i32))) (hn : n ≤ 64) :
    Calls Try.prog 32 #[v, .int .i32 c] w fun e w' => e = .returned (.int .u64 (chiK l c n : Nat)) ∧ w = w' := by
  obtain ⟨ao, cap, rfl⟩ := h.form
  have HR := Lib.hid h
  clear h
  go_enter Try.func32, Try.ntmps32
  go_wp2
  go_loop [5, 6] (fun x i => ∃ k : Nat, k ≤ n ∧ i = .int .i64 k ∧ x = .int .u64 (chiK l c k : Nat)) (fun _ i => n - (intOf i).toNat)
  case atStart => exact ⟨0, Nat.zero_le _, rfl, rfl⟩
  case round =>
    obtain ⟨k, hk, rfl, rfl⟩ := hrel
    by_cases hlt : k < n
    · obtain ⟨b, off, cap', x, e, hx, hc⟩ := Reads.one (Value.int .i32) HR.out hlt
      simp only [Value.slice.injEq] at e
      obtain ⟨rfl, -, rfl⟩ := e
      have hget : l[k]?.getD 0 = x := by rw [hx]; rfl
      have HB : Hid _ := Lib.hid (or_u64 (chiK l c k) k (by omega) (chiK_lt l c k))
      clear hx
      by_cases heq : x = c
      · have HS : Hid (chiK l c (k+1) = chiK l c k ||| 2 ^ k) := Lib.hid (by simp [chiK, hget, heq])
        have hq : (x == c) = true := by simp [heq]
        clear heq hget
        go_wp2
        go_round
        case rel => exact ⟨k + 1, by omega, by go_num, by rw [HB.out, HS.out]⟩
        case measure => simp [intOf] <;> omega
      · have HS : Hid (chiK l c (k+1) = chiK l c k) := Lib.hid (by simp [chiK, hget, heq])
        have hq : (x == c) = false := by simp [heq]
        clear hget
        go_wp2
        go_round
        case rel => exact ⟨k + 1, by omega, by go_num, by rw [HS.out]⟩
        case measure => simp [intOf] <;> omega
    · go_wp2
      go_ret
      obtain rfl : k = n := by omega
      exact ⟨by simp, rfl⟩
theorem ichi_any (v : Value) (n : Nat) (l : List Int) (c : Int) (w : World) (h : Reads w v n 1 (l.map (Value.int .i32))) (hn : n ≤ 64) :
    Calls Try.prog 11 #[v, .int .i32 c] w fun e w' => e = .returned (.int .u64 (chiK l c n : Nat)) ∧ w = w' := by
  have H := Lib.hid (chi_any v n l c w h hn)
  have H2 : Hid (Calls Try.prog 22 #[v, .int .i32 c] w fun e w' => e = .returned (.int .u64 (chiK l c n : Nat)) ∧ w = w') := by
    clear h
    apply Lib.hid
    go_enter Try.func22, Try.ntmps22
    go_wp2_with fail
    refine H.out.mono ?_
    rintro e w' ⟨rfl, rfl⟩
    go_wp2_with fail
    go_ret
    exact ⟨rfl, rfl⟩
  clear h H
  go_enter Try.func11, Try.ntmps11
  go_wp2_with fail
  refine H2.out.mono ?_
  rintro e w' ⟨rfl, rfl⟩
  go_wp2_with fail
  go_ret
  exact ⟨rfl, rfl⟩
set_option maxHeartbeats 1000000 in
theorem ext_any (X p : Nat) (w : World) (hX : X < 18446744073709551616) (hp : p < 64) :
    Calls Try.prog 43 #[.int .u64 X, .int .u8 p] w fun e w' => e = .returned (.bool (X.testBit p)) ∧ w' = w := by
  have HB := Lib.hid (and_bit X p hX)
  go_enter Try.func43, Try.ntmps43
  go_wp2
  go_ret
  rw [← HB.out]
  exact ⟨rfl, rfl⟩
/-- The automaton's struct. -/
def LaAt (w : World) (L m : Nat) (sw : Bool) : Prop := w.heap[L]? = some (.cells #[.int .u8 m, .bool sw] 76 (0, 0))
theorem LaAt.below {w w' : World} {L m : Nat} {sw : Bool} (h : LaAt w L m sw) (hb : Below w.heap.size w w') : LaAt w' L m sw := block_below h hb (block_lt h)
theorem dia_any (L m : Nat) (sw : Bool) (w : World) (h : LaAt w L m sw) (hm : m ≤ 8) :
    Calls Try.prog 37 #[.pointer (some ⟨L, 0, none⟩)] w fun e w' => e = .returned (.int .u8 ((2 * m + 1 : Nat))) ∧ w' = w := by
  have c0 := block_cell (i := 0) (u := .int .u8 m) h rfl
  clear h
  go_enter Try.func37, Try.ntmps37
  go_wp2
  go_ret
  refine ⟨?_, rfl⟩
  congr 2
theorem znfa_any (m : Nat) (sw : Bool) (w : World) :
    Calls Try.prog 21 #[.int .u8 m, .bool sw] w fun e w' => ∃ L, e = .returned (.pointer (some ⟨L, 0, none⟩)) ∧ LaAt w' L m sw ∧ Below w.heap.size w w' := by
  have H : Hid (Calls Try.prog 31 #[.int .u8 m, .bool sw] w fun e w' => e = .returned (.pointer (some ⟨w.heap.size, 0, none⟩)) ∧ LaAt w' w.heap.size m sw ∧ Below w.heap.size w w') := by
    apply Lib.hid
    go_enter Try.func31, Try.ntmps31
    go_wp2
    go_ret
    exact ⟨rfl, heap_alloc_new w _, (Below.refl _ _).alloc (Nat.le_refl _) _⟩
  go_enter Try.func21, Try.ntmps21
  go_wp2_with fail
  refine H.out.mono ?_
  rintro e w' ⟨rfl, h1, h2⟩
  go_wp2_with fail
  go_ret
  exact ⟨_, rfl, h1, h2⟩
theorem dist_any (x y : Nat) (w : World) (hx : x ≤ 1000000) (hy : y ≤ 1000000) :
    Calls Try.prog 39 #[.int .u32 x, .int .u32 y] w fun e w' => e = .returned (.int .u32 (far x y : Nat)) ∧ w' = w := by
  by_cases h : y < x
  · have e : far x y = x - y := by unfold far; rw [if_neg (by omega)]
    obtain ⟨z, hz⟩ : ∃ z : Nat, z = x - y := ⟨_, rfl⟩
    rw [e, ← hz]
    have hzz : ((x : Int) - (y : Int)) = (z : Int) := by omega
    have h1 : (y : Int) < (x : Int) := by omega
    clear hz e
    go_enter Try.func39, Try.ntmps39
    go_wp2
    go_ret
    exact ⟨rfl, rfl⟩
  · have e : far x y = y - x := by unfold far; split <;> omega
    obtain ⟨z, hz⟩ : ∃ z : Nat, z = y - x := ⟨_, rfl⟩
    rw [e, ← hz]
    have hzz : ((y : Int) - (x : Int)) = (z : Int) := by omega
    have h1 : ¬ (y : Int) < (x : Int) := by omega
    clear hz e
    go_enter Try.func39, Try.ntmps39
    go_wp2
    go_ret
    exact ⟨rfl, rfl⟩
theorem clear_any (base M : Nat) (v : Value) (w : World) (h : MsAt w base M v []) (hg : ∃ g cap, v = .slice (some ⟨g, 0, none⟩) 0 cap) :
    Calls Try.prog 36 #[.pointer (some ⟨M, 0, none⟩)] w fun e w' => e = .returned (.tuple #[]) ∧ MsAt w' base M v [] ∧ Below base w w' := by
  obtain ⟨g, cap, rfl⟩ := hg
  have c0 := block_cell (i := 0) (u := .slice (some ⟨g, 0, none⟩) 0 cap) h.blk rfl
  have f0 : w.frozen? ⟨M, 0, none⟩ = false := block_free h.blk
  have H := Lib.hid h
  clear h
  go_enter Try.func36, Try.ntmps36
  go_wp2
  go_end0
  refine ⟨rfl, ⟨block_set H.out.blk, ?_, H.out.ge⟩, (Below.refl _ _).setCell H.out.ge _⟩
  exact ownsRow_setCell_ne H.out.row (fun e => H.out.ne e.symm) _
end Go.Proofs.Ytpkkagiplockiaa.Nfa
