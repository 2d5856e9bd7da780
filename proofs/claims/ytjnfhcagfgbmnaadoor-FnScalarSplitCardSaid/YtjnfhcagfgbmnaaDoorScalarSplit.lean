/- The ranges of letters: FnScalarSplit's walk. -/
import Derived.Test.YtjnfhcagfgbmnaaDoorScalar
import Derived.Test.YtjnfhcagfgbmnaaDoorRows
import Derived.Test.YtjnfhcagfgbmnaaDoorLib
import Derived.Deep.QuietTactic
import Derived.BigQuiet
import Derived.WalkLawsBesides
import Derived.WalkSpells
import Derived.Lib.QuietBelow
import Derived.Deep.RegionWith
import Derived.Deep.RegionHeld3
import Derived.Laws.StructEq
import Derived.Laws.Cover2
namespace Go.Proofs.YtjnfhcagfgbmnaaDoor.Scalar
open Go.ChangeShapes Go.WideShapes Go.ChangeAt Go.RowKit Go.Trav
set_option linter.unusedVariables false
set_option maxRecDepth 100000
/- Split -/
theorem split_any (B : Nat) (a b : Int) (w : World) (h : w.heap[B]? = some (.cells #[rV a, rV b] 52 (0, 0))) (h0 : a < 57344) (hb : 55295 < b) :
    Calls Tryd.prog 26 #[.pointer (some ⟨B, 0, none⟩)] w fun e w' => e = .returned (.tuple #[.agg #[rV a, rV 55295], .agg #[rV 57344, rV b]]) ∧ Below w.heap.size w w' := by
  have hlt := block_lt h
  have h' : ((w.alloc (.cells #[.int .i32 0, .int .i32 0] 52)).alloc (.cells #[.int .i32 0, .int .i32 0] 52)).heap[B]? = some (.cells #[rV a, rV b] 52 (0, 0)) := block_alloc (block_alloc h)
  have c0 := block_cell (i := 0) (u := rV a) h rfl
  have c1 := block_cell (i := 1) (u := rV b) h rfl
  simp only [rV] at c0 c1
  have H := Lib.hid h
  have H' := Lib.hid h'
  clear h h'
  go_enter Tryd.func26, Tryd.ntmps26
  go_wp2
  go_region
  all_goals go_wp2
  have hf0 : (((w.alloc (.cells #[.int .i32 a, .int .i32 55295] 52)).alloc (.cells #[.int .i32 57344, .int .i32 b] 52)).drew).heap[w.heap.size]? = some (.cells #[.int .i32 a, .int .i32 55295] 52 (0, 0)) := block_alloc (w := w.alloc _) (heap_alloc_at _ _ _ rfl)
  have hf1 : (((w.alloc (.cells #[.int .i32 a, .int .i32 55295] 52)).alloc (.cells #[.int .i32 57344, .int .i32 b] 52)).drew).heap[w.heap.size + 1]? = some (.cells #[.int .i32 57344, .int .i32 b] 52 (0, 0)) := heap_alloc_at (w.alloc _) _ _ (by simp)
  have f0 := block_cell (i := 0) (u := .int .i32 a) hf0 rfl
  have f1 := block_cell (i := 1) (u := .int .i32 55295) hf0 rfl
  have f2 := block_cell (i := 0) (u := .int .i32 57344) hf1 rfl
  have f3 := block_cell (i := 1) (u := .int .i32 b) hf1 rfl
  refine bodyPost_ret (v := .tuple #[.agg #[rV a, rV 55295], .agg #[rV 57344, rV b]]) (by simp [results, Tryd.results26, go_sem, f0, f1, f2, f3, rV]) rfl ⟨rfl, ?_⟩
  exact (((Below.refl w.heap.size w).alloc (Nat.le_refl _) _).alloc (by simp) _).drew
theorem zzsplit_any (a b : Int) (w : World) (h0 : a < 57344) (hb : 55295 < b) :
    Calls Tryd.prog 20 #[.int .i32 a, .int .i32 b] w fun e w' => e = .returned (.tuple #[rV a, rV 55295, rV 57344, rV b]) ∧ Below w.heap.size w w' := by
  go_enter Tryd.func20, Tryd.ntmps20
  go_wp2_with fail
  refine (split_any w.heap.size a b _ (heap_alloc_at _ _ _ rfl) h0 hb).mono ?_
  rintro e w' ⟨rfl, hbel⟩
  simp only [rV]
  go_wp2
  go_quiet (fail)
  go_wp2
  refine bodyPost_ret (v := .tuple #[rV a, rV 55295, rV 57344, rV b]) (by simp [results, Tryd.results20, go_sem, rV]) rfl ⟨rfl, ?_⟩
  have h1 := ((Below.refl w.heap.size w).alloc (Nat.le_refl _) _).trans (hbel.mono (by simp))
  have h2 := h1.size
  exact below_drewN ((h1.alloc h2 _).alloc (by simp; omega) _) _
theorem implsplit_any (a b : Int) (w : World) (h0 : a < 57344) (hb : 55295 < b) :
    Calls Tryd.prog 11 #[.int .i32 a, .int .i32 b] w fun e w' => e = .returned (.tuple #[.agg #[rV a, rV 55295], .agg #[rV 57344, rV b]]) ∧ Below w.heap.size w w' := by
  go_enter Tryd.func11, Tryd.ntmps11
  go_wp2_with fail
  refine (zzsplit_any a b _ h0 hb).mono ?_
  rintro e w' ⟨rfl, hbel⟩
  simp only [rV]
  have hr : w'.heap[w.heap.size]? = some (.cells #[.int .i32 0, .int .i32 0] 29 (0, 0)) := block_below (block_alloc (heap_alloc_at _ _ _ rfl)) hbel (by simp; omega)
  have hs : w'.heap[w.heap.size + 1]? = some (.cells #[.int .i32 0, .int .i32 0] 29 (0, 0)) := block_below (heap_alloc_at _ _ _ (by simp)) hbel (by simp)
  have r0 := block_cell (i := 0) (u := .int .i32 0) hr rfl
  have r1 := block_cell (i := 1) (u := .int .i32 0) hr rfl
  have r2 := block_free (i := 0) hr
  have r3 := block_free (i := 1) hr
  have s0 := block_cell (i := 0) (u := .int .i32 0) hs rfl
  have s1 := block_cell (i := 1) (u := .int .i32 0) hs rfl
  have s2 := block_free (i := 0) hs
  have s3 := block_free (i := 1) hs
  have HR := Lib.hid hr
  have HS := Lib.hid hs
  clear hr hs
  go_wp2
  go_region
  all_goals go_wp2
  have e1 : ∀ u : Value, ∀ i, (⟨w.heap.size + 1, i, none⟩ : Addr).block ≠ w.heap.size := fun _ _ => by simp
  have e2 : ∀ u : Value, ∀ i, (⟨w.heap.size, i, none⟩ : Addr).block ≠ w.heap.size + 1 := fun _ _ => by simp
  have t0 := block_set_ne (a := ⟨w.heap.size + 1, 1, none⟩) (u := .int .i32 b) (block_set_ne (a := ⟨w.heap.size + 1, 0, none⟩) (u := .int .i32 57344) (block_set (i := 1) (u := .int .i32 55295) (block_set (i := 0) (u := .int .i32 a) HR.out)) (by simp)) (by simp)
  have t1 := block_set (i := 1) (u := .int .i32 b) (block_set (i := 0) (u := .int .i32 57344) (block_set_ne (a := ⟨w.heap.size, 1, none⟩) (u := .int .i32 55295) (block_set_ne (a := ⟨w.heap.size, 0, none⟩) (u := .int .i32 a) HS.out (by simp)) (by simp)))
  have y0 := block_set_ne (a := ⟨w.heap.size + 1, 1, none⟩) (u := .int .i32 b) (block_set_ne (a := ⟨w.heap.size + 1, 0, none⟩) (u := .int .i32 57344) (block_set (i := 1) (u := .int .i32 55295) (block_set (i := 0) (u := .int .i32 a) t0)) (by simp)) (by simp)
  have y1 := block_set (i := 1) (u := .int .i32 b) (block_set (i := 0) (u := .int .i32 57344) (block_set_ne (a := ⟨w.heap.size, 1, none⟩) (u := .int .i32 55295) (block_set_ne (a := ⟨w.heap.size, 0, none⟩) (u := .int .i32 a) t1 (by simp)) (by simp)))
  have f0 := block_cell (i := 0) (u := .int .i32 a) y0 rfl
  have f1 := block_cell (i := 1) (u := .int .i32 55295) y0 rfl
  have f2 := block_cell (i := 0) (u := .int .i32 57344) y1 rfl
  have f3 := block_cell (i := 1) (u := .int .i32 b) y1 rfl
  refine bodyPost_ret (v := .tuple #[.agg #[rV a, rV 55295], .agg #[rV 57344, rV b]]) (by simp [results, Tryd.results11, go_sem, f0, f1, f2, f3, rV]) rfl ⟨rfl, ?_⟩
  have h1 := (((Below.refl w.heap.size w).alloc (Nat.le_refl _) _).alloc (by simp) _).trans (hbel.mono (by simp; omega))
  exact ((((((((h1.setCell (by simp) _).setCell (by simp) _).setCell (by simp) _).setCell (by simp) _).setCell (by simp) _).setCell (by simp) _).setCell (by simp) _).setCell (by simp) _).drew
def isLet (r : Int) : Bool := decide (0 ≤ r ∧ r ≤ 1114111 ∧ (r < 55296 ∨ 57343 < r))
theorem isletter_any (r : Int) (w : World) : Calls Tryd.prog 12 #[.int .i64 r] w fun e w' => e = .returned (.bool (isLet r)) ∧ Below w.heap.size w w' := by
  by_cases h1 : 0 ≤ r <;> by_cases h2 : r ≤ 1114111 <;> by_cases h3 : r < 55296 <;> by_cases h4 : 57343 < r
  all_goals
    go_enter Tryd.func12, Tryd.ntmps12
    go_wp2
    go_ret
    exact ⟨by simp [isLet]; omega, Below.refl _ _⟩
def rangedB (a b : Int) : Bool := decide (0 ≤ a ∧ a ≤ 1114111 ∧ 0 ≤ b ∧ b ≤ 1114111)
theorem ranged_any (a b : Int) (w : World) : Calls Tryd.prog 9 #[.int .i32 a, .int .i32 b] w fun e w' => e = .returned (.bool (rangedB a b)) ∧ Below w.heap.size w w' := by
  by_cases h1 : 0 ≤ a <;> by_cases h2 : a ≤ 1114111 <;> by_cases h3 : 0 ≤ b <;> by_cases h4 : b ≤ 1114111
  all_goals
    go_enter Tryd.func9, Tryd.ntmps9
    go_wp2
    go_ret
    exact ⟨by simp [rangedB]; try omega, Below.refl _ _⟩
theorem between_no (a b : Int) (w : World) (ha : 0 ≤ a ∧ a ≤ 1114111) (hb : 0 ≤ b ∧ b ≤ 1114111) (hab : a ≤ b) (h : b < 55296 ∨ 57343 < a) : Calls Tryd.prog 10 #[.int .i64 a, .int .i64 b] w fun e w' => e = .returned (.int .i64 (b - a + 1)) ∧ Below w.heap.size w w' := by
  rcases h with h | h
  · go_enter Tryd.func10, Tryd.ntmps10
    go_wp2
    go_ret
    exact ⟨rfl, Below.refl _ _⟩
  · go_enter Tryd.func10, Tryd.ntmps10
    go_wp2
    go_ret
    exact ⟨rfl, Below.refl _ _⟩
theorem between_yes (a b : Int) (w : World) (ha : 0 ≤ a ∧ a ≤ 1114111) (hb : 0 ≤ b ∧ b ≤ 1114111) (hab : a ≤ b) (h1 : 55296 ≤ b) (h2 : a ≤ 57343) : Calls Tryd.prog 10 #[.int .i64 a, .int .i64 b] w fun e w' => (∃ x, e = .returned (.int .i64 x) ∧ x ≠ b - a + 1) ∧ Below w.heap.size w w' := by
  by_cases h3 : a < 55296 <;> by_cases h4 : 57343 < b
  all_goals
    go_enter Tryd.func10, Tryd.ntmps10
    go_wp2
    all_goals first
      | (go_ret; exact ⟨⟨_, rfl, by omega⟩, Below.refl _ _⟩)
      | (exfalso; omega)
set_option maxHeartbeats 4000000 in
theorem law_split (a b l : Int) (w : World) (ha : -2147483648 ≤ a ∧ a ≤ 2147483647) (hb : -2147483648 ≤ b ∧ b ≤ 2147483647) (hl : -2147483648 ≤ l ∧ l ≤ 2147483647) :
    Calls Tryd.prog 5 #[.int .i32 a, .int .i32 b, .int .i32 l] w fun e w' => e = .returned (.bool true) ∧ Below w.heap.size w w' := by
  by_cases h0 : rangedB a b = false
  · go_enter Tryd.func5, Tryd.ntmps5
    go_wp2_with fail
    refine (ranged_any a b _).mono ?_
    rintro e w1 ⟨rfl, b1⟩
    go_wp2
    go_ret
    exact ⟨rfl, b1⟩
  replace h0 : rangedB a b = true := by simpa using h0
  have hr : 0 ≤ a ∧ a ≤ 1114111 ∧ 0 ≤ b ∧ b ≤ 1114111 := by simpa [rangedB] using h0
  by_cases h1 : b < a
  · go_enter Tryd.func5, Tryd.ntmps5
    go_wp2_with fail
    refine (ranged_any a b _).mono ?_
    rintro e w1 ⟨rfl, b1⟩
    go_wp2
    go_ret
    exact ⟨rfl, b1⟩
  by_cases h2 : b < 55296 ∨ 57343 < a
  · go_enter Tryd.func5, Tryd.ntmps5
    go_wp2_with fail
    refine (ranged_any a b _).mono ?_
    rintro e w1 ⟨rfl, b1⟩
    go_wp2_with fail
    refine (between_no a b _ (by omega) (by omega) (by omega) h2).mono ?_
    rintro e w2 ⟨rfl, b2⟩
    go_wp2
    go_ret
    exact ⟨rfl, b1.trans (b2.mono b1.size)⟩
  go_enter Tryd.func5, Tryd.ntmps5
  go_wp2_with fail
  refine (ranged_any a b _).mono ?_
  rintro e w1 ⟨rfl, b1⟩
  go_wp2_with fail
  refine (between_yes a b _ (by omega) (by omega) (by omega) (by omega) (by omega)).mono ?_
  rintro e w2 ⟨⟨x, rfl, hx⟩, b2⟩
  have hx' : (x == b - a + 1) = false := beq_eq_false_iff_ne.2 hx
  go_wp2_with fail
  refine (implsplit_any a b _ (by omega) (by omega)).mono ?_
  rintro e w3 ⟨rfl, b3⟩
  have hb3 := (b1.trans (b2.mono b1.size)).trans (b3.mono (b1.trans (b2.mono b1.size)).size)
  simp only [rV]
  clear b1 b2 b3
  have z29 := Tryd.sizeOf29
  have a29 := Tryd.isAgg29
  have u29 := Tryd.underlying29
  by_cases k1 : a ≤ l <;> by_cases k2 : l ≤ 55295 <;> by_cases k3 : 57344 ≤ l <;> by_cases k4 : l ≤ b
  all_goals try (exfalso; omega)
  all_goals
    go_wp2_with fail
    refine (isletter_any l _).mono ?_
    rintro e w4 ⟨rfl, b4⟩
    cases hL : isLet l
    all_goals go_wp2
    all_goals go_ret
    all_goals refine ⟨by simp [isLet] at hL ⊢; try omega, (((hb3.alloc hb3.size _).alloc (by have := hb3.size; simp; omega) _).trans (b4.mono (by have := hb3.size; simp; omega)))⟩
end Go.Proofs.YtjnfhcagfgbmnaaDoor.Scalar
