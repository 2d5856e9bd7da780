/- The spec's own expressions: at, Valid, letter. -/
import Derived.Test.YtnpchkohfomagaaDoorRows
import Derived.Test.YtnpchkohfomagaaDoorLib
import Derived.Test.YtnpchkohfomagaaDoorSeqMath
import Derived.Deep.QuietTactic
import Derived.BigQuiet
import Derived.WalkLawsBesides
import Derived.WalkSpells
import Derived.WalkSmall
namespace Go.Proofs.YtnpchkohfomagaaDoor.Rgy
open Go.ChangeShapes Go.WideShapes Go.ChangeAt Go.RowKit Go.Trav Go.Utf
set_option linter.unusedVariables false
set_option linter.unusedSimpArgs false
set_option maxRecDepth 100000
def atP (x : Int) (n : Nat) : Nat := ((x % 18446744073709551616) % (n : Int)).toNat
theorem mod_bd (y : Int) (n : Nat) (h : 0 < n) : 0 ≤ y % (n : Int) ∧ y % (n : Int) < (n : Int) := ⟨Int.emod_nonneg _ (by omega), Int.emod_lt_of_pos _ (by omega)⟩
theorem atP_lt (x : Int) (n : Nat) (h : 0 < n) : atP x n < n := by unfold atP; have := mod_bd (x % 18446744073709551616) n h; omega
theorem at_any (x : Int) (n : Nat) (w : World) (h : 0 < n) (hn : n ≤ 1000000) : Calls Tryd.prog 31 #[.int .i64 x, .int .i64 (n : Int)] w fun e w' => e = .returned (.int .i64 (atP x n : Int)) ∧ w = w' := by
  have h1 : IntKind.u64.wrap x = x % 18446744073709551616 := by rw [IntKind.wrap_u64]
  have h2 : IntKind.u64.wrap (n : Int) = (n : Int) := IntWalk.u64_in _ (by omega)
  have h3 : ((n : Int) == 0) = false := beq_eq_false_iff_ne.2 (by omega)
  have hmb := mod_bd (x % 18446744073709551616) n h
  have h4 : IntKind.i64.wrap (x % 18446744073709551616 % (n : Int)) = (atP x n : Int) := by
    rw [IntWalk.i64_in _ (by omega)]; unfold atP; omega
  have h5 : (x % 18446744073709551616).tmod (n : Int) = x % 18446744073709551616 % (n : Int) := Int.tmod_eq_emod_of_nonneg (by omega)
  go_enter Tryd.func31, Tryd.ntmps31
  go_wp2_with fail
  go_ret
  exact ⟨rfl, rfl⟩
def LetB (x : Int) : Bool := decide (0 ≤ x) && decide (x ≤ 1114111) && (decide (x < 55296) || decide (57343 < x))
theorem letB_iff (x : Int) : LetB x = true ↔ Let x := by unfold LetB Let; simp [and_assoc]
theorem valid_any (x : Int) (w : World) : Calls Tryd.prog 51 #[.int .i32 x] w fun e w' => e = .returned (.bool (LetB x)) ∧ Below w.heap.size w w' := by
  by_cases h1 : 0 ≤ x
  · by_cases h2 : x ≤ 1114111
    · by_cases h3 : x < 55296
      · go_enter Tryd.func51, Tryd.ntmps51
        go_wp2_with fail
        go_ret
        exact ⟨by simp [LetB, h1, h2, h3] <;> omega, Below.refl _ _⟩
      · go_enter Tryd.func51, Tryd.ntmps51
        go_wp2_with fail
        go_ret
        exact ⟨by simp [LetB, h1, h2, h3] <;> omega, Below.refl _ _⟩
    · go_enter Tryd.func51, Tryd.ntmps51
      go_wp2_with fail
      go_ret
      exact ⟨by simp [LetB, h1, h2] <;> omega, Below.refl _ _⟩
  · go_enter Tryd.func51, Tryd.ntmps51
    go_wp2_with fail
    go_ret
    exact ⟨by simp [LetB, h1] <;> omega, Below.refl _ _⟩
def few : List Int := [97, 98, 99, 100, 10, 233, 2047, 2048, 65535, 65536, 1114111, 55295]
def letP (x : Int) : Int := if (32 ≤ x ∧ x < 127) ∨ (127 < x ∧ LetB x = true) then x else few.getD ((x % 4294967296) % 12).toNat 97
theorem few_let : ∀ y ∈ few, Let y := by intro y hy; simp [few] at hy; rcases hy with rfl | rfl | rfl | rfl | rfl | rfl | rfl | rfl | rfl | rfl | rfl | rfl <;> (unfold Let; simp)
theorem letP_let (x : Int) : Let (letP x) := by
  unfold letP
  split
  · rename_i h
    rcases h with h | h
    · unfold Let; omega
    · exact (letB_iff x).mp h.2
  · rw [List.getD_eq_getElem?_getD]
    cases e : few[((x % 4294967296) % 12).toNat]? with
    | none => simp; unfold Let; simp
    | some y => exact few_let y (List.mem_of_getElem? e)
theorem letter_tab (x : Int) : ∃ (j : Nat) (y : Int), j < 12 ∧ (x % 4294967296) % 12 = (j : Int) ∧ few[j]? = some y ∧ few.getD ((x % 4294967296) % 12).toNat 97 = y := by
  have h := mod_bd (x % 4294967296) 12 (by omega)
  obtain ⟨j, hj⟩ := Int.eq_ofNat_of_zero_le h.1
  have hj' : (x % 4294967296) % 12 = (j : Int) := hj
  have hl : j < 12 := by omega
  have hl2 : j < few.length := hl
  refine ⟨j, few[j], hl, hj', List.getElem?_eq_getElem hl2, ?_⟩
  rw [hj', Int.toNat_natCast, List.getD_eq_getElem?_getD, List.getElem?_eq_getElem hl2]; rfl
set_option maxHeartbeats 4000000 in
theorem letter_any (x : Int) (w : World) : Calls Tryd.prog 39 #[.int .i32 x] w fun e w' => e = .returned (.int .i32 (letP x)) ∧ Below w.heap.size w w' := by
  have hw1 : IntKind.u32.wrap x = x % 4294967296 := by rw [IntKind.wrap_u32]
  obtain ⟨j, y, hj, hjx, hy, hgd⟩ := letter_tab x
  have hw2 : IntKind.i64.wrap (j : Int) = (j : Int) := IntWalk.i64_in _ (by omega)
  have hj0 : (0 : Int) ≤ (j : Int) := by omega
  have hj12 : (j : Int) < 12 := by omega
  have hcell : ∀ (W : World) (B : Nat) (T : TypeId) (fr : Nat × Nat), W.heap[B]? = some (.cells #[.int .i32 97, .int .i32 98, .int .i32 99, .int .i32 100, .int .i32 10, .int .i32 233, .int .i32 2047, .int .i32 2048, .int .i32 65535, .int .i32 65536, .int .i32 1114111, .int .i32 55295] T fr) → W.cell? ⟨B, j, none⟩ = some (.int .i32 y) := fun W B T fr h => by
    refine block_cell h ?_
    have h9 : (few.map (Value.int .i32))[j]? = some (.int .i32 y) := by rw [List.getElem?_map, hy]; rfl
    simpa [few] using h9
  by_cases h1 : 32 ≤ x ∧ x < 127
  · obtain ⟨a1, a2⟩ := h1
    have hp : letP x = x := by unfold letP; rw [if_pos (Or.inl ⟨a1, a2⟩)]
    have HP := Lib.hid hp
    clear hp hcell hy hgd hjx
    go_enter Tryd.func39, Tryd.ntmps39
    go_wp2_with fail
    go_ret
    exact ⟨by rw [HP.out]; rfl, (Below.refl _ _).alloc (Nat.le_refl _) _⟩
  · by_cases h2 : 127 < x
    · by_cases h3 : LetB x = true
      · have hp : letP x = x := by unfold letP; rw [if_pos (Or.inr ⟨h2, h3⟩)]
        have HP := Lib.hid hp
        have HB := Lib.hid h3
        have h4 : ¬ x < 127 := by omega
        have h5 : 32 ≤ x := by omega
        clear hp hcell hy hgd hjx h1
        go_enter Tryd.func39, Tryd.ntmps39
        go_wp2_with (first | (go_at_call 51; refine (valid_any x _).mono ?_; rintro e w' ⟨rfl, hb⟩; rw [HB.out]; have HBB := Lib.hid hb; clear hb))
        go_ret
        exact ⟨by rw [HP.out]; rfl, ((Below.refl w.heap.size w).alloc (Nat.le_refl _) _).trans (HBB.out.mono (by simp))⟩
      · have h3' : LetB x = false := by simpa using h3
        have hp : letP x = y := by
          unfold letP
          rw [if_neg (by rintro (h | h); exact h1 h; exact h3 h.2)]; exact hgd
        have HP := Lib.hid hp
        have HB := Lib.hid h3'
        have HC := Lib.hid hcell
        have h4 : ¬ x < 127 := by omega
        have h5 : 32 ≤ x := by omega
        clear hp hcell hy hgd h1 h3 h3'
        go_enter Tryd.func39, Tryd.ntmps39
        go_wp2_with (first | (go_at_call 51; refine (valid_any x _).mono ?_; rintro e w' ⟨rfl, hb⟩; rw [HB.out]; have hcy := HC.out w' w.heap.size _ _ (block_below (heap_alloc_new w _) hb (by simp)); have HBB := Lib.hid hb; clear hb))
        go_ret
        exact ⟨by rw [HP.out]; rfl, ((Below.refl w.heap.size w).alloc (Nat.le_refl _) _).trans (HBB.out.mono (by simp))⟩
    · have hp : letP x = y := by
        unfold letP
        rw [if_neg (by rintro (h | h); exact h1 h; exact h2 h.1)]; exact hgd
      have HP := Lib.hid hp
      have hcy := fun T fr => hcell _ w.heap.size T fr (heap_alloc_new w (.cells #[.int .i32 97, .int .i32 98, .int .i32 99, .int .i32 100, .int .i32 10, .int .i32 233, .int .i32 2047, .int .i32 2048, .int .i32 65535, .int .i32 65536, .int .i32 1114111, .int .i32 55295] T fr))
      by_cases h5 : 32 ≤ x
      · have h4 : ¬ x < 127 := by omega
        clear hp hcell hy hgd h1
        go_enter Tryd.func39, Tryd.ntmps39
        go_wp2_with fail
        go_ret
        exact ⟨by rw [HP.out]; rfl, (Below.refl _ _).alloc (Nat.le_refl _) _⟩
      · clear hp hcell hy hgd h1
        go_enter Tryd.func39, Tryd.ntmps39
        go_wp2_with fail
        go_ret
        exact ⟨by rw [HP.out]; rfl, (Below.refl _ _).alloc (Nat.le_refl _) _⟩
end Go.Proofs.YtnpchkohfomagaaDoor.Rgy
