/- The ranges of letters: FnScalarASCII's and FnScalarSplit's walks. -/
import Derived.Test.YtjnfhcagfgbmnaaDoorRows
import Derived.Test.YtjnfhcagfgbmnaaDoorLib
import Derived.Deep.QuietTactic
import Derived.BigQuiet
import Derived.WalkLawsBesides
import Derived.WalkSpells
import Derived.Lib.QuietBelow
import Derived.Deep.RegionWith
import Derived.Deep.RegionHeld3
import Derived.Laws.StructEq
import Derived.Laws.Cover2
namespace Go.Proofs.YtjnfhcagfgbmnaaDoor.Scalar
open Go.ChangeShapes Go.WideShapes Go.ChangeAt Go.RowKit Go.Trav
set_option linter.unusedVariables false
set_option maxRecDepth 100000

def rV (x : Int) : Value := .int .i32 x
theorem valid_any (B : Nat) (a b : Int) (w : World) (h : w.heap[B]? = some (.cells #[rV a, rV b] 52 (0, 0))) (hab : a ≤ b) :
    Calls Tryd.prog 31 #[.pointer (some ⟨B, 0, none⟩)] w fun e w' => e = .returned (.bool true) ∧ Below w.heap.size w w' := by
  have c0 := block_cell (i := 0) (u := rV a) h rfl
  have c1 := block_cell (i := 1) (u := rV b) h rfl
  simp only [rV] at c0 c1
  go_enter Tryd.func31, Tryd.ntmps31
  go_wp2
  go_quiet (fail)
  go_wp2
  go_ret
  exact ⟨by simp, below_draws _ _⟩
theorem ascii_any (B : Nat) (a b : Int) (w : World) (h : w.heap[B]? = some (.cells #[rV a, rV b] 52 (0, 0))) (h0 : 0 ≤ a) (hab : a ≤ b) (hb : b ≤ 127) :
    Calls Tryd.prog 25 #[.pointer (some ⟨B, 0, none⟩)] w fun e w' => e = .returned (.agg #[.int .u8 a, .int .u8 b]) ∧ Below w.heap.size w w' := by
  have hlt := block_lt h
  go_enter Tryd.func25, Tryd.ntmps25
  go_wp2_with fail
  refine (valid_any B a b _ (block_alloc h) hab).mono ?_
  rintro e w' ⟨rfl, hbel⟩
  have h' : w'.heap[B]? = some (.cells #[rV a, rV b] 52 (0, 0)) := block_below (block_alloc h) hbel (by simp; omega)
  have hr : w'.heap[w.heap.size]? = some (.cells #[.int .u8 0, .int .u8 0] 44 (0, 0)) := block_below (heap_alloc_at _ _ _ rfl) hbel (by simp)
  have c0 := block_cell (i := 0) (u := rV a) h' rfl
  have c1 := block_cell (i := 1) (u := rV b) h' rfl
  simp only [rV] at c0 c1
  have r0 := block_cell (i := 0) (u := .int .u8 0) hr rfl
  have r1 := block_cell (i := 1) (u := .int .u8 0) hr rfl
  have r2 := block_free (i := 0) hr
  have r3 := block_free (i := 1) hr
  have H := Lib.hid h'
  have HR := Lib.hid hr
  clear h' hr
  go_wp2
  go_region
  all_goals go_wp2
  have hf := block_set (i := 1) (u := .int .u8 b) (block_set (i := 0) (u := .int .u8 a) HR.out)
  have f0 := block_cell (i := 0) (u := .int .u8 a) hf rfl
  have f1 := block_cell (i := 1) (u := .int .u8 b) hf rfl
  refine bodyPost_ret (v := .agg #[.int .u8 a, .int .u8 b]) (by simp [results, Tryd.results25, go_sem, f0, f1]) rfl ⟨rfl, ?_⟩
  exact (((((Below.refl w.heap.size w).alloc (Nat.le_refl _) _).trans (hbel.mono (by simp))).setCell (by simp) _).setCell (by simp) _).drew
theorem zzascii_any (a b : Int) (w : World) (h0 : 0 ≤ a) (hab : a ≤ b) (hb : b ≤ 127) :
    Calls Tryd.prog 19 #[.int .i32 a, .int .i32 b] w fun e w' => e = .returned (.agg #[.int .u8 a, .int .u8 b]) ∧ Below w.heap.size w w' := by
  go_enter Tryd.func19, Tryd.ntmps19
  go_wp2_with fail
  refine (ascii_any (w.heap.size + 1) a b _ (heap_alloc_at _ _ _ (by simp)) h0 hab hb).mono ?_
  rintro e w' ⟨rfl, hbel⟩
  have hr : w'.heap[w.heap.size]? = some (.cells #[.int .u8 0, .int .u8 0] 44 (0, 0)) := block_below (block_alloc (heap_alloc_at _ _ _ rfl)) hbel (by simp; omega)
  have r0 := block_cell (i := 0) (u := .int .u8 0) hr rfl
  have r1 := block_cell (i := 1) (u := .int .u8 0) hr rfl
  have r2 := block_free (i := 0) hr
  have r3 := block_free (i := 1) hr
  have HR := Lib.hid hr
  clear hr
  go_wp2
  have hf := block_set (i := 1) (u := .int .u8 b) (block_set (i := 0) (u := .int .u8 a) HR.out)
  have f0 := block_cell (i := 0) (u := .int .u8 a) hf rfl
  have f1 := block_cell (i := 1) (u := .int .u8 b) hf rfl
  refine bodyPost_ret (v := .agg #[.int .u8 a, .int .u8 b]) (by simp [results, Tryd.results19, go_sem, f0, f1]) rfl ⟨rfl, ?_⟩
  exact (((((Below.refl w.heap.size w).alloc (Nat.le_refl _) _).alloc (by simp) _).trans (hbel.mono (by simp; omega))).setCell (by simp) _).setCell (by simp) _
theorem implascii_any (a b : Int) (w : World) (h0 : 0 ≤ a) (hab : a ≤ b) (hb : b ≤ 127) :
    Calls Tryd.prog 8 #[.int .i32 a, .int .i32 b] w fun e w' => e = .returned (.agg #[.int .u8 a, .int .u8 b]) ∧ Below w.heap.size w w' := by
  go_enter Tryd.func8, Tryd.ntmps8
  go_wp2_with fail
  refine (zzascii_any a b _ h0 hab hb).mono ?_
  rintro e w' ⟨rfl, hbel⟩
  have hr : w'.heap[w.heap.size]? = some (.cells #[.int .u8 0, .int .u8 0] 25 (0, 0)) := block_below (heap_alloc_at _ _ _ rfl) hbel (by simp)
  have hlt : w.heap.size < w'.heap.size := block_lt hr
  have r0 := block_cell (i := 0) (u := .int .u8 0) hr rfl
  have r1 := block_cell (i := 1) (u := .int .u8 0) hr rfl
  have r2 := block_free (i := 0) hr
  have r3 := block_free (i := 1) hr
  have HR := Lib.hid hr
  clear hr
  go_wp2
  have hf := block_alloc (o' := .cells #[.int .u8 a, .int .u8 b] 44 (0, 0)) (block_set (i := 1) (u := .int .u8 b) (block_set (i := 0) (u := .int .u8 a) HR.out))
  have f0 := block_cell (i := 0) (u := .int .u8 a) hf rfl
  have f1 := block_cell (i := 1) (u := .int .u8 b) hf rfl
  refine bodyPost_ret (v := .agg #[.int .u8 a, .int .u8 b]) (by simp [results, Tryd.results8, go_sem, f0, f1]) rfl ⟨rfl, ?_⟩
  exact (((((Below.refl w.heap.size w).alloc (Nat.le_refl _) _).trans (hbel.mono (by simp))).setCell (Nat.le_refl _) _).setCell (Nat.le_refl _) _).alloc (by simp; omega) _
theorem eq_arr (a b c d : Int) (w : World) : (Op.equalIn 10000 25 (.agg #[.int .u8 a, .int .u8 b]) (.agg #[.int .u8 c, .int .u8 d])).run Tryd.prog w = .ok (a == c && b == d) w := by
  have u3 := Tryd.underlying5
  have a3 := Tryd.isAgg5
  have z3 := Tryd.sizeOf5
  rw [show (10000 : Nat) = 9999 + 1 from rfl, Op.equalIn]
  simp only [Sem.run_bind, run_underlying Tryd.underlying25, Result.andThen_ok]
  simp only [Std.Legacy.Range.forIn_eq_forIn_range', Std.Legacy.Range.size, Nat.sub_zero, Nat.add_sub_cancel, Nat.div_one, List.range'_succ, List.range'_zero, List.forIn_cons, List.forIn_nil]
  go_simp
  by_cases h1 : a = c <;> by_cases h2 : b = d <;> simp [h1, h2]
theorem law_ascii (a b : Int) (w : World) (ha : -2147483648 ≤ a ∧ a ≤ 2147483647) (hb : -2147483648 ≤ b ∧ b ≤ 2147483647) :
    Calls Tryd.prog 4 #[.int .i32 a, .int .i32 b] w fun e w' => e = .returned (.bool true) ∧ Below w.heap.size w w' := by
  by_cases h1 : a < 0
  · go_enter Tryd.func4, Tryd.ntmps4
    go_wp2
    go_ret
    exact ⟨rfl, Below.refl _ _⟩
  by_cases h2 : b < a
  · go_enter Tryd.func4, Tryd.ntmps4
    go_wp2
    go_ret
    exact ⟨rfl, Below.refl _ _⟩
  by_cases h3 : 127 < b
  · go_enter Tryd.func4, Tryd.ntmps4
    go_wp2
    go_ret
    exact ⟨rfl, Below.refl _ _⟩
  go_enter Tryd.func4, Tryd.ntmps4
  go_wp2_with fail
  refine (implascii_any a b _ (by omega) (by omega) (by omega)).mono ?_
  rintro e w' ⟨rfl, hbel⟩
  have he := eq_arr a b a b
  go_wp2
  go_ret
  exact ⟨by simp, hbel⟩
end Go.Proofs.YtjnfhcagfgbmnaaDoor.Scalar
