/- NewSequences: contracts of the small functions that it calls. -/
import Derived.Test.YtnpchkohfomagaaDoorRows
import Derived.Test.YtnpchkohfomagaaDoorLib
import Derived.Test.YtnpchkohfomagaaDoorLib2
import Derived.Test.YtnpchkohfomagaaDoorSeqMath
import Derived.Deep.QuietTactic
import Derived.BigQuiet
import Derived.WalkLawsBesides
import Derived.WalkSpells
import Derived.Lib.QuietBelow
import Derived.Deep.RegionWith
import Derived.Deep.RegionHeld3
import Derived.Laws.StructEq
import Derived.Laws.Cover2
namespace Go.Proofs.YtnpchkohfomagaaDoor.Seq
open Go.ChangeShapes Go.WideShapes Go.ChangeAt Go.RowKit Go.Trav Go.Utf
set_option linter.unusedVariables false
set_option maxRecDepth 100000
def rV (x : Int) : Value := .int .i32 x
def bV (x : Int) : Value := .int .u8 x
/-- The two package variables. -/
structure Glob (w : World) : Prop where
  s0 : w.cell? ⟨8, 0, none⟩ = some (.int .i32 65535)
  s1 : w.cell? ⟨8, 1, none⟩ = some (.int .i32 0)
  r0 : w.cell? ⟨9, 0, none⟩ = some (.int .u8 255)
  r1 : w.cell? ⟨9, 1, none⟩ = some (.int .u8 0)
theorem Glob.lt {w : World} (h : Glob w) : 8 < w.heap.size ∧ 9 < w.heap.size := ⟨World.block_lt_of_cell? w _ h.s0, World.block_lt_of_cell? w _ h.r0⟩
theorem Glob.mod {w w' : World} {F : Nat → Prop} (h : Glob w) (hm : Mod F w w') (h1 : ¬ F 8) (h2 : ¬ F 9) : Glob w' :=
  ⟨hm.cell h.s0 h1, hm.cell h.s1 h1, hm.cell h.r0 h2, hm.cell h.r1 h2⟩
theorem Glob.below {w w' : World} {k : Nat} (h : Glob w) (hb : Below k w w') (h1 : 8 < k) (h2 : 9 < k) : Glob w' :=
  ⟨(hb.cell (p := ⟨8, 0, none⟩) h1).trans h.s0, (hb.cell (p := ⟨8, 1, none⟩) h1).trans h.s1, (hb.cell (p := ⟨9, 0, none⟩) h2).trans h.r0, (hb.cell (p := ⟨9, 1, none⟩) h2).trans h.r1⟩
/-- A range in its own block. -/
def RAt (w : World) (B : Nat) (a b : Int) : Prop := w.heap[B]? = some (.cells #[.int .i32 a, .int .i32 b] 187 (0, 0))
theorem valid_yes (B : Nat) (a b : Int) (w : World) (h : RAt w B a b) (hab : a ≤ b) :
    Calls Tryd.prog 94 #[.pointer (some ⟨B, 0, none⟩)] w fun e w' => e = .returned (.bool true) ∧ Below w.heap.size w w' := by
  have c0 := block_cell (i := 0) (u := .int .i32 a) h rfl
  have c1 := block_cell (i := 1) (u := .int .i32 b) h rfl
  go_enter Tryd.func94, Tryd.ntmps94
  go_wp2
  go_quiet (fail)
  go_wp2
  go_ret
  exact ⟨by simp, below_draws _ _⟩
theorem valid_no (B : Nat) (a b : Int) (w : World) (h : RAt w B a b) (hab : b < a) :
    Calls Tryd.prog 94 #[.pointer (some ⟨B, 0, none⟩)] w fun e w' => e = .returned (.bool false) ∧ Below w.heap.size w w' := by
  have c0 := block_cell (i := 0) (u := .int .i32 a) h rfl
  have c1 := block_cell (i := 1) (u := .int .i32 b) h rfl
  go_enter Tryd.func94, Tryd.ntmps94
  go_wp2
  go_quiet (fail)
  go_wp2
  go_ret
  exact ⟨by simp; omega, below_draws _ _⟩
theorem ascii_yes (B : Nat) (a b : Int) (w : World) (h : RAt w B a b) (h0 : 0 ≤ a) (hab : a ≤ b) (hb : b ≤ 127) :
    Calls Tryd.prog 96 #[.pointer (some ⟨B, 0, none⟩)] w fun e w' => e = .returned (.agg #[.int .u8 a, .int .u8 b]) ∧ Below w.heap.size w w' := by
  unfold RAt at h
  have hlt := block_lt h
  go_enter Tryd.func96, Tryd.ntmps96
  go_wp2_with fail
  refine (valid_yes B a b _ (block_alloc h) hab).mono ?_
  rintro e w' ⟨rfl, hbel⟩
  have h' : w'.heap[B]? = some (.cells #[.int .i32 a, .int .i32 b] 187 (0, 0)) := block_below (block_alloc h) hbel (by simp; omega)
  have hr : w'.heap[w.heap.size]? = some (.cells #[.int .u8 0, .int .u8 0] 195 (0, 0)) := block_below (heap_alloc_at _ _ _ rfl) hbel (by simp)
  have c0 := block_cell (i := 0) (u := .int .i32 a) h' rfl
  have c1 := block_cell (i := 1) (u := .int .i32 b) h' rfl
  have r0 := block_cell (i := 0) (u := .int .u8 0) hr rfl
  have r1 := block_cell (i := 1) (u := .int .u8 0) hr rfl
  have r2 := block_free (i := 0) hr
  have r3 := block_free (i := 1) hr
  have H := Lib.hid h'
  have HR := Lib.hid hr
  clear h' hr
  go_wp2
  go_region
  all_goals go_wp2
  have hf := block_set (i := 1) (u := .int .u8 b) (block_set (i := 0) (u := .int .u8 a) HR.out)
  have f0 := block_cell (i := 0) (u := .int .u8 a) hf rfl
  have f1 := block_cell (i := 1) (u := .int .u8 b) hf rfl
  refine bodyPost_ret (v := .agg #[.int .u8 a, .int .u8 b]) (by simp [results, Tryd.results96, go_sem, f0, f1]) rfl ⟨rfl, ?_⟩
  exact (((((Below.refl w.heap.size w).alloc (Nat.le_refl _) _).trans (hbel.mono (by simp))).setCell (by simp) _).setCell (by simp) _).drew
theorem ascii_no (B : Nat) (a b : Int) (w : World) (hg : Glob w) (h : RAt w B a b) (hab : a ≤ b) (hb : 127 < b) :
    Calls Tryd.prog 96 #[.pointer (some ⟨B, 0, none⟩)] w fun e w' => e = .returned (.agg #[.int .u8 255, .int .u8 0]) ∧ Below w.heap.size w w' := by
  unfold RAt at h
  have hlt := block_lt h
  have hgl := hg.lt
  go_enter Tryd.func96, Tryd.ntmps96
  go_wp2_with fail
  refine (valid_yes B a b _ (block_alloc h) hab).mono ?_
  rintro e w' ⟨rfl, hbel⟩
  have h' : w'.heap[B]? = some (.cells #[.int .i32 a, .int .i32 b] 187 (0, 0)) := block_below (block_alloc h) hbel (by simp; omega)
  have hr : w'.heap[w.heap.size]? = some (.cells #[.int .u8 0, .int .u8 0] 195 (0, 0)) := block_below (heap_alloc_at _ _ _ rfl) hbel (by simp)
  obtain ⟨s0, s1, n0, n1⟩ := hg.below (((Below.refl w.heap.size w).alloc (Nat.le_refl _) _).trans (hbel.mono (by simp))) hgl.1 hgl.2
  have c0 := block_cell (i := 0) (u := .int .i32 a) h' rfl
  have c1 := block_cell (i := 1) (u := .int .i32 b) h' rfl
  have r0 := block_cell (i := 0) (u := .int .u8 0) hr rfl
  have r1 := block_cell (i := 1) (u := .int .u8 0) hr rfl
  have r2 := block_free (i := 0) hr
  have r3 := block_free (i := 1) hr
  have H := Lib.hid h'
  have HR := Lib.hid hr
  clear h' hr
  go_wp2
  have hf := block_set (i := 1) (u := .int .u8 0) (block_set (i := 0) (u := .int .u8 255) HR.out)
  have f0 := block_cell (i := 0) (u := .int .u8 255) hf rfl
  have f1 := block_cell (i := 1) (u := .int .u8 0) hf rfl
  refine bodyPost_ret (v := .agg #[.int .u8 255, .int .u8 0]) (by simp [results, Tryd.results96, go_sem, f0, f1]) rfl ⟨rfl, ?_⟩
  exact ((((Below.refl w.heap.size w).alloc (Nat.le_refl _) _).trans (hbel.mono (by simp))).setCell (by simp) _).setCell (by simp) _
theorem split_yes (B : Nat) (a b : Int) (w : World) (h : RAt w B a b) (h0 : a < 57344) (hb : 55295 < b) :
    Calls Tryd.prog 93 #[.pointer (some ⟨B, 0, none⟩)] w fun e w' => e = .returned (.tuple #[.agg #[.int .i32 a, .int .i32 55295], .agg #[.int .i32 57344, .int .i32 b]]) ∧ Below w.heap.size w w' := by
  unfold RAt at h
  have hlt := block_lt h
  have h' : ((w.alloc (.cells #[.int .i32 0, .int .i32 0] 187)).alloc (.cells #[.int .i32 0, .int .i32 0] 187)).heap[B]? = some (.cells #[.int .i32 a, .int .i32 b] 187 (0, 0)) := block_alloc (block_alloc h)
  have c0 := block_cell (i := 0) (u := .int .i32 a) h rfl
  have c1 := block_cell (i := 1) (u := .int .i32 b) h rfl
  have H := Lib.hid h
  have H' := Lib.hid h'
  clear h h'
  go_enter Tryd.func93, Tryd.ntmps93
  go_wp2
  go_region
  all_goals go_wp2
  have hf0 : (((w.alloc (.cells #[.int .i32 a, .int .i32 55295] 187)).alloc (.cells #[.int .i32 57344, .int .i32 b] 187)).drew).heap[w.heap.size]? = some (.cells #[.int .i32 a, .int .i32 55295] 187 (0, 0)) := block_alloc (w := w.alloc _) (heap_alloc_at _ _ _ rfl)
  have hf1 : (((w.alloc (.cells #[.int .i32 a, .int .i32 55295] 187)).alloc (.cells #[.int .i32 57344, .int .i32 b] 187)).drew).heap[w.heap.size + 1]? = some (.cells #[.int .i32 57344, .int .i32 b] 187 (0, 0)) := heap_alloc_at (w.alloc _) _ _ (by simp)
  have f0 := block_cell (i := 0) (u := .int .i32 a) hf0 rfl
  have f1 := block_cell (i := 1) (u := .int .i32 55295) hf0 rfl
  have f2 := block_cell (i := 0) (u := .int .i32 57344) hf1 rfl
  have f3 := block_cell (i := 1) (u := .int .i32 b) hf1 rfl
  refine bodyPost_ret (v := .tuple #[.agg #[.int .i32 a, .int .i32 55295], .agg #[.int .i32 57344, .int .i32 b]]) (by simp [results, Tryd.results93, go_sem, f0, f1, f2, f3]) rfl ⟨rfl, ?_⟩
  exact (((Below.refl w.heap.size w).alloc (Nat.le_refl _) _).alloc (by simp) _).drew
theorem split_no (B : Nat) (a b : Int) (w : World) (hg : Glob w) (h : RAt w B a b) (h0 : ¬ (a < 57344 ∧ 55295 < b)) :
    Calls Tryd.prog 93 #[.pointer (some ⟨B, 0, none⟩)] w fun e w' => e = .returned (.tuple #[.agg #[.int .i32 65535, .int .i32 0], .agg #[.int .i32 65535, .int .i32 0]]) ∧ Below w.heap.size w w' := by
  unfold RAt at h
  have hlt := block_lt h
  obtain ⟨hg1, hg2⟩ := hg.lt
  obtain ⟨s0, s1, n0, n1⟩ := hg
  have c0 := block_cell (i := 0) (u := .int .i32 a) h rfl
  have c1 := block_cell (i := 1) (u := .int .i32 b) h rfl
  have H := Lib.hid h
  clear h
  by_cases ha : a < 57344
  · have hb : ¬ 55295 < b := fun e => h0 ⟨ha, e⟩
    clear h0
    go_enter Tryd.func93, Tryd.ntmps93
    go_wp2
    obtain ⟨wx, hwx⟩ : ∃ wx : World, wx = (w.alloc (.cells #[.int .i32 0, .int .i32 0] 187 (0, 0))).alloc (.cells #[.int .i32 0, .int .i32 0] 187 (0, 0)) := ⟨_, rfl⟩
    have hx0 : wx.heap[w.heap.size]? = some (.cells #[.int .i32 0, .int .i32 0] 187 (0, 0)) := by rw [hwx]; exact block_alloc (heap_alloc_at _ _ _ rfl)
    have hx1 : wx.heap[w.heap.size + 1]? = some (.cells #[.int .i32 0, .int .i32 0] 187 (0, 0)) := by rw [hwx]; exact heap_alloc_at _ _ _ (by simp)
    have hbx : Below w.heap.size w wx := by rw [hwx]; exact ((Below.refl w.heap.size w).alloc (Nat.le_refl _) _).alloc (by simp) _
    have s0' := (hbx.cell (p := ⟨8, 0, none⟩) hg1).trans s0
    have s1' := (hbx.cell (p := ⟨8, 1, none⟩) hg1).trans s1
    rw [← hwx]
    clear hwx
    have x0 := block_cell (i := 0) (u := .int .i32 0) hx0 rfl
    have x1 := block_cell (i := 1) (u := .int .i32 0) hx0 rfl
    have x2 := block_free (i := 0) hx0
    have x3 := block_free (i := 1) hx0
    have y0 := block_cell (i := 0) (u := .int .i32 0) hx1 rfl
    have y1 := block_cell (i := 1) (u := .int .i32 0) hx1 rfl
    have y2 := block_free (i := 0) hx1
    have y3 := block_free (i := 1) hx1
    have HX0 := Lib.hid hx0
    have HX1 := Lib.hid hx1
    have hsz := hbx.size
    clear hx0 hx1 c0 c1 s0 s1 n0 n1
    go_region
    all_goals go_wp2
    have hf0 := (block_set_ne (a := ⟨w.heap.size + 1, 1, none⟩) (u := .int .i32 0) (block_set_ne (a := ⟨w.heap.size + 1, 0, none⟩) (u := .int .i32 65535) (block_set (i := 1) (u := .int .i32 0) (block_set (i := 0) (u := .int .i32 65535) HX0.out)) (by simp)) (by simp))
    have hf1 := block_set (i := 1) (u := .int .i32 0) (block_set (i := 0) (u := .int .i32 65535) (block_set_ne (a := ⟨w.heap.size, 1, none⟩) (u := .int .i32 0) (block_set_ne (a := ⟨w.heap.size, 0, none⟩) (u := .int .i32 65535) HX1.out (by simp)) (by simp)))
    have f0 := block_cell (i := 0) (u := .int .i32 65535) hf0 rfl
    have f1 := block_cell (i := 1) (u := .int .i32 0) hf0 rfl
    have f2 := block_cell (i := 0) (u := .int .i32 65535) hf1 rfl
    have f3 := block_cell (i := 1) (u := .int .i32 0) hf1 rfl
    refine bodyPost_ret (v := .tuple #[.agg #[.int .i32 65535, .int .i32 0], .agg #[.int .i32 65535, .int .i32 0]]) (by simp [results, Tryd.results93, go_sem, f0, f1, f2, f3]) rfl ⟨rfl, ?_⟩
    exact ((((hbx.setCell (by simp) _).setCell (by simp) _).setCell (by simp) _).setCell (by simp) _).drew
  · clear h0
    go_enter Tryd.func93, Tryd.ntmps93
    go_wp2
    obtain ⟨wx, hwx⟩ : ∃ wx : World, wx = (w.alloc (.cells #[.int .i32 0, .int .i32 0] 187 (0, 0))).alloc (.cells #[.int .i32 0, .int .i32 0] 187 (0, 0)) := ⟨_, rfl⟩
    have hx0 : wx.heap[w.heap.size]? = some (.cells #[.int .i32 0, .int .i32 0] 187 (0, 0)) := by rw [hwx]; exact block_alloc (heap_alloc_at _ _ _ rfl)
    have hx1 : wx.heap[w.heap.size + 1]? = some (.cells #[.int .i32 0, .int .i32 0] 187 (0, 0)) := by rw [hwx]; exact heap_alloc_at _ _ _ (by simp)
    have hbx : Below w.heap.size w wx := by rw [hwx]; exact ((Below.refl w.heap.size w).alloc (Nat.le_refl _) _).alloc (by simp) _
    have s0' := (hbx.cell (p := ⟨8, 0, none⟩) hg1).trans s0
    have s1' := (hbx.cell (p := ⟨8, 1, none⟩) hg1).trans s1
    rw [← hwx]
    clear hwx
    have x0 := block_cell (i := 0) (u := .int .i32 0) hx0 rfl
    have x1 := block_cell (i := 1) (u := .int .i32 0) hx0 rfl
    have x2 := block_free (i := 0) hx0
    have x3 := block_free (i := 1) hx0
    have y0 := block_cell (i := 0) (u := .int .i32 0) hx1 rfl
    have y1 := block_cell (i := 1) (u := .int .i32 0) hx1 rfl
    have y2 := block_free (i := 0) hx1
    have y3 := block_free (i := 1) hx1
    have HX0 := Lib.hid hx0
    have HX1 := Lib.hid hx1
    have hsz := hbx.size
    clear hx0 hx1 c0 c1 s0 s1 n0 n1
    go_region
    all_goals go_wp2
    have hf0 := (block_set_ne (a := ⟨w.heap.size + 1, 1, none⟩) (u := .int .i32 0) (block_set_ne (a := ⟨w.heap.size + 1, 0, none⟩) (u := .int .i32 65535) (block_set (i := 1) (u := .int .i32 0) (block_set (i := 0) (u := .int .i32 65535) HX0.out)) (by simp)) (by simp))
    have hf1 := block_set (i := 1) (u := .int .i32 0) (block_set (i := 0) (u := .int .i32 65535) (block_set_ne (a := ⟨w.heap.size, 1, none⟩) (u := .int .i32 0) (block_set_ne (a := ⟨w.heap.size, 0, none⟩) (u := .int .i32 65535) HX1.out (by simp)) (by simp)))
    have f0 := block_cell (i := 0) (u := .int .i32 65535) hf0 rfl
    have f1 := block_cell (i := 1) (u := .int .i32 0) hf0 rfl
    have f2 := block_cell (i := 0) (u := .int .i32 65535) hf1 rfl
    have f3 := block_cell (i := 1) (u := .int .i32 0) hf1 rfl
    refine bodyPost_ret (v := .tuple #[.agg #[.int .i32 65535, .int .i32 0], .agg #[.int .i32 65535, .int .i32 0]]) (by simp [results, Tryd.results93, go_sem, f0, f1, f2, f3]) rfl ⟨rfl, ?_⟩
    exact ((((hbx.setCell (by simp) _).setCell (by simp) _).setCell (by simp) _).setCell (by simp) _).drew
theorem max1 (w : World) : Calls Tryd.prog 95 #[.int .i64 1] w fun e w' => e = .returned (.int .i32 127) ∧ w = w' := by
  go_enter Tryd.func95, Tryd.ntmps95
  go_wp2
  go_ret
  exact ⟨rfl, rfl⟩
theorem max2 (w : World) : Calls Tryd.prog 95 #[.int .i64 2] w fun e w' => e = .returned (.int .i32 2047) ∧ w = w' := by
  go_enter Tryd.func95, Tryd.ntmps95
  go_wp2
  go_ret
  exact ⟨rfl, rfl⟩
theorem max3 (w : World) : Calls Tryd.prog 95 #[.int .i64 3] w fun e w' => e = .returned (.int .i32 65535) ∧ w = w' := by
  go_enter Tryd.func95, Tryd.ntmps95
  go_wp2
  go_ret
  exact ⟨rfl, rfl⟩
theorem Tryd.info187 : (Tryd.prog.info? 187).map (fun i => (i.zero, i.size, i.bytes)) = some (some (.agg #[.int .i32 0, .int .i32 0]), 2, 8) := by kernel_rfl
def srCells (q : Int × Int) : List Value := [.int .i32 q.1, .int .i32 q.2]
theorem srCells_len (q : Int × Int) : (srCells q).length = 2 := rfl
theorem push_any (base : Nat) (v : Value) (n : Nat) (l : List Value) (a b : Int) (w : World) (h : w.ownsRow base 187 2 v n l) (hn : n < 68719476736) (hb : base ≤ w.heap.size) :
    Calls Tryd.prog 91 #[v, .agg #[.int .i32 a, .int .i32 b]] w fun e w' => ∃ ao cap, e = .returned (.slice ao (n + 1) cap) ∧ w'.ownsRow base 187 2 (.slice ao (n + 1) cap) (n + 1) (l ++ srCells (a, b)) ∧ Mod (fun k => v.ownBlock = some k) w w' ∧ ∀ k, (Value.slice ao (n + 1) cap).ownBlock = some k → v.ownBlock = some k ∨ w.heap.size ≤ k := by
  have h' : (w.alloc (.cells #[.int .i32 a, .int .i32 b] 187)).ownsRow base 187 2 v n l := h.alloc _
  have H := Lib.hid h'
  clear h h'
  go_enter Tryd.func91, Tryd.ntmps91
  go_wp2_with (at_builtin; refine wpList_append_one rfl _ _ 133 rfl base 187 _ 2 8 Tryd.underlying133 Tryd.info187 rfl (by decide) (by decide) v _ _ rfl H.out #[_, _] _ _ rfl (by simp) rfl (by simp [Value.oneCell']) (by omega) (by simp; omega) ?_; intro ao cap w1 hown' hgr hat)
  go_ret
  refine ⟨ao, cap, rfl, hown', (((Mod.refl _ _).alloc _).alloc _).grown hgr fun k hk _ => hk, fun k hk => ?_⟩
  rcases hat with e | e
  · rw [e] at hk; exact Or.inl hk
  · rw [e] at hk; simp at hk; omega
theorem pop_yes (base : Nat) (ao : Option Addr) (n cap : Nat) (l : List (Int × Int)) (q : Int × Int) (w : World) (h : w.ownsRow base 187 2 (.slice ao (n + 1) cap) (n + 1) ((l ++ [q]).flatMap srCells)) :
    Calls Tryd.prog 92 #[.slice ao (n + 1) cap] w fun e w' => e = .returned (.tuple #[.slice ao n cap, .agg #[.int .i32 q.1, .int .i32 q.2]]) ∧ Below w.heap.size w w' := by
  have hl := Reads.recs srCells srCells_len (reads_of_owns h) (by omega)
  have hln : l.length = n := by simp at hl; omega
  obtain ⟨g, cap', e, h1, h2, h3, h4⟩ := ownsRow_at h (by rw [flatMap_len srCells 2 srCells_len]; omega)
  simp only [Value.slice.injEq] at e
  obtain ⟨rfl, -, rfl⟩ := e
  have k0 := h4 (n * 2 + 0) (.int .i32 q.1) (by rw [flatMap_at srCells 2 srCells_len _ n 0 (by omega) q (by simp [← hln])]; rfl)
  have k1 := h4 (n * 2 + 1) (.int .i32 q.2) (by rw [flatMap_at srCells 2 srCells_len _ n 1 (by omega) q (by simp [← hln])]; rfl)
  have c0 := k0.1
  have c1 := k1.1
  simp only [Nat.add_zero] at c0
  have hg : g < w.heap.size := World.block_lt_of_cell? w _ c0
  have hm := h2
  unfold maxLen at hm
  clear k0 k1 h4 h hl hln
  go_enter Tryd.func92, Tryd.ntmps92
  go_wp2_with fail
  obtain ⟨wx, hwx⟩ : ∃ wx : World, wx = w.alloc (.cells #[.int .i32 0, .int .i32 0] 187 (0, 0)) := ⟨_, rfl⟩
  have hx0 : wx.heap[w.heap.size]? = some (.cells #[.int .i32 0, .int .i32 0] 187 (0, 0)) := by rw [hwx]; exact heap_alloc_at _ _ _ rfl
  have hbx : Below w.heap.size w wx := by rw [hwx]; exact (Below.refl w.heap.size w).alloc (Nat.le_refl _) _
  have c0' := (hbx.cell (p := ⟨g, n * 2, none⟩) hg).trans c0
  have c1' := (hbx.cell (p := ⟨g, n * 2 + 1, none⟩) hg).trans c1
  rw [← hwx]
  clear hwx c0 c1
  have x0 := block_cell (i := 0) (u := .int .i32 0) hx0 rfl
  have x1 := block_cell (i := 1) (u := .int .i32 0) hx0 rfl
  have x2 := block_free (i := 0) hx0
  have x3 := block_free (i := 1) hx0
  have HX0 := Lib.hid hx0
  have hsz := hbx.size
  clear hx0
  have en : ((n : Int) + 1 - 1) = n := by omega
  go_region
  all_goals go_wp2
  have hf0 := block_set (i := 1) (u := .int .i32 q.2) (block_set (i := 0) (u := .int .i32 q.1) HX0.out)
  have f0 := block_cell (i := 0) (u := .int .i32 q.1) hf0 rfl
  have f1 := block_cell (i := 1) (u := .int .i32 q.2) hf0 rfl
  refine bodyPost_ret (v := .tuple #[.slice (some ⟨g, 0, none⟩) n cap, .agg #[.int .i32 q.1, .int .i32 q.2]]) (by simp [results, Tryd.results92, go_sem, f0, f1]) rfl ⟨rfl, ?_⟩
  exact ((hbx.setCell (by simp) _).setCell (by simp) _).drew
theorem pop_no (ao : Option Addr) (cap : Nat) (w : World) (hgl : Glob w) :
    Calls Tryd.prog 92 #[.slice ao 0 cap] w fun e w' => e = .returned (.tuple #[.slice ao 0 cap, .agg #[.int .i32 65535, .int .i32 0]]) ∧ Below w.heap.size w w' := by
  obtain ⟨hg1, hg2⟩ := hgl.lt
  obtain ⟨s0, s1, n0, n1⟩ := hgl
  go_enter Tryd.func92, Tryd.ntmps92
  go_wp2_with fail
  obtain ⟨wx, hwx⟩ : ∃ wx : World, wx = w.alloc (.cells #[.int .i32 0, .int .i32 0] 187 (0, 0)) := ⟨_, rfl⟩
  have hx0 : wx.heap[w.heap.size]? = some (.cells #[.int .i32 0, .int .i32 0] 187 (0, 0)) := by rw [hwx]; exact heap_alloc_at _ _ _ rfl
  have hbx : Below w.heap.size w wx := by rw [hwx]; exact (Below.refl w.heap.size w).alloc (Nat.le_refl _) _
  have s0' := (hbx.cell (p := ⟨8, 0, none⟩) hg1).trans s0
  have s1' := (hbx.cell (p := ⟨8, 1, none⟩) hg1).trans s1
  rw [← hwx]
  clear hwx s0 s1 n0 n1
  have x0 := block_cell (i := 0) (u := .int .i32 0) hx0 rfl
  have x1 := block_cell (i := 1) (u := .int .i32 0) hx0 rfl
  have x2 := block_free (i := 0) hx0
  have x3 := block_free (i := 1) hx0
  have HX0 := Lib.hid hx0
  have hsz := hbx.size
  clear hx0
  go_region
  all_goals go_wp2
  have hf0 := block_set (i := 1) (u := .int .i32 0) (block_set (i := 0) (u := .int .i32 65535) HX0.out)
  have f0 := block_cell (i := 0) (u := .int .i32 65535) hf0 rfl
  have f1 := block_cell (i := 1) (u := .int .i32 0) hf0 rfl
  refine bodyPost_ret (v := .tuple #[.slice ao 0 cap, .agg #[.int .i32 65535, .int .i32 0]]) (by simp [results, Tryd.results92, go_sem, f0, f1]) rfl ⟨rfl, ?_⟩
  exact ((hbx.setCell (by simp) _).setCell (by simp) _).drew
end Go.Proofs.YtnpchkohfomagaaDoor.Seq
