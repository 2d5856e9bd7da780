/- The automaton that always matches; the law FnAny. -/
import Derived.Test.YtanimdajohpggaaPath
namespace Go.Proofs.Ytanimdajohpggaa.Any
open Go.ChangeShapes Go.WideShapes Go.ChangeAt Go.RowKit Go.Trav Path
set_option linter.unusedVariables false
set_option maxRecDepth 100000
theorem start_any (a : Addr) (w : World) : Calls Try.prog 118 #[.pointer (some a)] w fun e w' => e = .returned (.int .i64 0) ∧ Below w.heap.size w w' := by
  go_enter Try.func118, Try.ntmps118
  go_wp2
  go_ret
  exact ⟨rfl, Below.refl _ _⟩
theorem is_any (a : Addr) (x : Int) (w : World) : Calls Try.prog 117 #[.pointer (some a), .int .i64 x] w fun e w' => e = .returned (.bool true) ∧ Below w.heap.size w w' := by
  go_enter Try.func117, Try.ntmps117
  go_wp2
  go_ret
  exact ⟨rfl, Below.refl _ _⟩
theorem can_any (a : Addr) (x : Int) (w : World) : Calls Try.prog 116 #[.pointer (some a), .int .i64 x] w fun e w' => e = .returned (.bool true) ∧ Below w.heap.size w w' := by
  go_enter Try.func116, Try.ntmps116
  go_wp2
  go_ret
  exact ⟨rfl, Below.refl _ _⟩
theorem will_any (a : Addr) (x : Int) (w : World) : Calls Try.prog 119 #[.pointer (some a), .int .i64 x] w fun e w' => e = .returned (.bool true) ∧ Below w.heap.size w w' := by
  go_enter Try.func119, Try.ntmps119
  go_wp2
  go_ret
  exact ⟨rfl, Below.refl _ _⟩
theorem acc_any (a : Addr) (x y : Int) (w : World) : Calls Try.prog 115 #[.pointer (some a), .int .i64 x, .int .u8 y] w fun e w' => e = .returned (.int .i64 0) ∧ Below w.heap.size w w' := by
  go_enter Try.func115, Try.ntmps115
  go_wp2
  go_ret
  exact ⟨rfl, Below.refl _ _⟩
def always (a : Addr) (w0 : World) : Aut 79 (.pointer (some a)) (.pointer (some a)) (fun _ => True) 0 (fun _ => true) (fun _ => true) (fun _ => true) (fun _ _ => 0) w0 where
  fS := 118
  fI := 117
  fC := 116
  fW := 119
  fA := 115
  mS := fun w => by kernel_rfl
  mI := fun w => by kernel_rfl
  mC := fun w => by kernel_rfl
  mW := fun w => by kernel_rfl
  mA := fun w => by kernel_rfl
  nA := fun w => by kernel_rfl
  eS := Try.call118
  eI := Try.call117
  eC := Try.call116
  eW := Try.call119
  eA := Try.call115
  cS := fun w _ => start_any a w
  cI := fun w s _ _ => is_any a s w
  cC := fun w s _ _ => can_any a s w
  cW := fun w s _ _ => will_any a s w
  cA := fun w s b _ _ _ _ => acc_any a s b w
  ok0 := trivial
  okA := fun _ _ _ _ _ => trivial
theorem row_true (start : Int) (ac : Int → Int → Int) (l : List UInt8) (k : Nat) : rowOf (fun _ => true) start ac l k = (List.replicate k ()).map fun _ => Value.bool true := by
  unfold rowOf
  apply List.ext_getElem <;> simp
theorem anypath_any (s : ByteArray) (w : World) (hs : s.size ≤ 2147483647) :
    Calls Try.prog 17 #[.string s] w fun e w' => ∃ v1 v2 v3 : Value, e = .returned (.tuple #[v1, v2, v3]) ∧ Reads w' v1 (s.size + 1) 1 ((List.replicate (s.size + 1) ()).map fun _ => Value.bool true) ∧ Reads w' v2 (s.size + 1) 1 ((List.replicate (s.size + 1) ()).map fun _ => Value.bool true) ∧ Reads w' v3 (s.size + 1) 1 ((List.replicate (s.size + 1) ()).map fun _ => Value.bool true) ∧ Below w.heap.size w w' := by
  go_enter Try.func17, Try.ntmps17
  go_wp2_with fail
  refine (path_any s _ (always _ _) hs).mono ?_
  rintro e w1 ⟨v1, v2, v3, rfl, r1, r2, r3, hb⟩
  rw [row_true] at r1 r2 r3
  have R1 := Lib.hid r1
  have R2 := Lib.hid r2
  have R3 := Lib.hid r3
  clear r1 r2 r3
  go_wp2_with fail
  go_ret3
  exact ⟨_, _, _, rfl, R1.out, R2.out, R3.out, ((Below.refl _ _).alloc (Nat.le_refl _) _).trans (hb.mono (by simp))⟩
theorem law_any (s : ByteArray) (w : World) : Calls Try.prog 5 #[.string s] w fun e w' => e = .returned (.bool true) ∧ Below w.heap.size w w' := by
  by_cases hs : s.size ≤ 1048576
  · go_enter Try.func5, Try.ntmps5
    go_wp2_with fail
    refine (anypath_any s _ (by omega)).mono ?_
    rintro e w1 ⟨v1, v2, v3, rfl, r1, r2, r3, hb⟩
    obtain ⟨a1, c1, rfl⟩ := r1.form
    obtain ⟨a2, c2, rfl⟩ := r2.form
    obtain ⟨a3, c3, rfl⟩ := r3.form
    have R1 := Lib.hid r1
    have R2 := Lib.hid r2
    have R3 := Lib.hid r3
    clear r1 r2 r3
    have q : ((s.size : Int) + 1 != (s.size : Int) + 1) = false := by simp
    go_wp2_with fail
    go_loopw [6] (fun ix wr => ∃ k : Nat, ix = .int .i64 k ∧ k ≤ s.size + 1 ∧ w1 = wr) (fun ix _ => s.size + 1 - (intOf ix).toNat)
    case atStart => exact ⟨0, rfl, Nat.zero_le _, rfl⟩
    case round =>
      obtain ⟨k, rfl, hk, rfl⟩ := hrel
      by_cases hlt : k < s.size + 1
      · obtain ⟨b1, o1, _, _, e1, _, g1⟩ := Reads.one _ R1.out hlt
        obtain ⟨b2, o2, _, _, e2, _, g2⟩ := Reads.one _ R2.out hlt
        obtain ⟨b3, o3, _, _, e3, _, g3⟩ := Reads.one _ R3.out hlt
        cases e1; cases e2; cases e3
        go_wp2_with fail
        go_roundw
        case rel => exact ⟨k + 1, by go_num, by omega, trivial⟩
        case measure => simp [intOf]; omega
      · obtain rfl : k = s.size + 1 := by omega
        go_wp2_with fail
        go_ret
        exact ⟨rfl, hb⟩
  · by_cases hs2 : s.size ≤ 2147483647
    · go_enter Try.func5, Try.ntmps5
      go_wp2_with fail
      go_ret
      exact ⟨rfl, Below.refl _ _⟩
    · go_enter Try.func5, Try.ntmps5
      go_wp2_with fail
      go_ret
      exact ⟨rfl, Below.refl _ _⟩
end Go.Proofs.Ytanimdajohpggaa.Any
