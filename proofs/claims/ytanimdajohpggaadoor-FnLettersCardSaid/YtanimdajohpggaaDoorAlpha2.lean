/- levenshtein.Alphabet: next, where there is one more. -/
import Derived.Test.YtanimdajohpggaaDoorAlpha1
import Derived.Deep.RegionHeld3
namespace Go.Proofs.YtanimdajohpggaaDoor.Utf0
open Go.ChangeShapes Go.WideShapes Go.ChangeAt Go.RowKit Go.Trav Go.Utf
set_option linter.unusedVariables false
set_option maxRecDepth 100000
theorem next_more (B b off n cap i : Nat) (ch : Int) (fa : Option Addr) (fn fc : Nat) (w : World) (hB : w.heap[B]? = some (.cells #[.slice (some ⟨b, off, none⟩) n cap, .int .u32 (i : Int)] 93 (0, 0))) (h : i < n) (hn : n ≤ 1000000) (hc : w.cell? ⟨b, off + i * 2, none⟩ = some (.int .i32 ch)) (hf : w.cell? ⟨b, off + i * 2 + 1, none⟩ = some (.slice fa fn fc)) :
    Calls Tryd.prog 61 #[.pointer (some ⟨B, 0, none⟩)] w fun e w' => e = .returned (.tuple #[.int .i32 ch, .slice fa fn fc, .nilIface]) ∧ w'.heap[B]? = some (.cells #[.slice (some ⟨b, off, none⟩) n cap, .int .u32 ((i + 1 : Nat) : Int)] 93 (0, 0)) ∧ Mod (fun k => k = B) w w' := by
  have c0 : w.cell? ⟨B, 0, none⟩ = some (.slice (some ⟨b, off, none⟩) n cap) := block_cell hB rfl
  have c1 : w.cell? ⟨B, 1, none⟩ = some (.int .u32 (i : Int)) := block_cell hB rfl
  have f1 : w.frozen? ⟨B, 1, none⟩ = false := block_free hB
  have q1 : decide ((n : Int) ≤ (i : Int)) = false := by rw [decide_eq_false_iff_not]; omega
  have q2 : decide (n ≤ i) = false := by rw [decide_eq_false_iff_not]; omega
  have ew : IntKind.i64.wrap (i : Int) = (i : Int) := IntWalk.i64_in _ (by omega)
  have hI1 : (0 : Int) ≤ (i : Int) := by omega
  have hI2 : (i : Int) < (n : Int) := by omega
  have al : ∀ {a : Addr} {u : Value}, w.cell? a = some u → ∀ k o, ((w.drewN k).alloc o).cell? a = some u := fun {a u} h k o => (World.cell?_alloc_some _ _ o (by simp [h])).trans (by simpa using h)
  have a0 := al c0
  have a1 := al c1
  have a2 := al hc
  have a3 := al hf
  clear al
  have hnb : ∀ k, ((w.drewN k).alloc (.cells #[.int .i32 0, .slice none 0 0] 151)).heap[w.heap.size]? = some (.cells #[.int .i32 0, .slice none 0 0] 151 (0, 0)) := fun k => heap_alloc_new (w.drewN k) _
  have n0 : ∀ k, ((w.drewN k).alloc (.cells #[.int .i32 0, .slice none 0 0] 151)).cell? ⟨w.heap.size, 0, none⟩ = some (.int .i32 0) := fun k => block_cell (hnb k) rfl
  have n1 : ∀ k, ((w.drewN k).alloc (.cells #[.int .i32 0, .slice none 0 0] 151)).cell? ⟨w.heap.size, 1, none⟩ = some (.slice none 0 0) := fun k => block_cell (hnb k) rfl
  have n2 : ∀ k, ((w.drewN k).alloc (.cells #[.int .i32 0, .slice none 0 0] 151)).frozen? ⟨w.heap.size, 0, none⟩ = false := fun k => block_free (hnb k)
  have n3 : ∀ k, ((w.drewN k).alloc (.cells #[.int .i32 0, .slice none 0 0] 151)).frozen? ⟨w.heap.size, 1, none⟩ = false := fun k => block_free (hnb k)
  have hlt : B < w.heap.size := block_lt hB
  have hsB : ∀ k o u v, ((((w.drewN k).alloc o).setCell ⟨w.heap.size, 0, none⟩ u).setCell ⟨w.heap.size, 1, none⟩ v).heap[B]? = some (.cells #[.slice (some ⟨b, off, none⟩) n cap, .int .u32 (i : Int)] 93 (0, 0)) := fun k o u v =>
    block_set_ne (block_set_ne (block_alloc (w := w.drewN k) hB) (by show w.heap.size ≠ B; omega)) (by show w.heap.size ≠ B; omega)
  have b1 := fun k o u v => block_cell (i := 1) (hsB k o u v) rfl
  have b2 := fun k o u v => block_free (i := 1) (hsB k o u v)
  have hsN : ∀ k u v z, (((((w.drewN k).alloc (.cells #[.int .i32 0, .slice none 0 0] 151)).setCell ⟨w.heap.size, 0, none⟩ u).setCell ⟨w.heap.size, 1, none⟩ v).setCell ⟨B, 1, none⟩ z).heap[w.heap.size]? = some (.cells #[u, v] 151 (0, 0)) := fun k u v z => by
    refine block_set_ne ?_ (by show B ≠ w.heap.size; omega)
    have h1 := block_set (i := 1) (u := v) (block_set (i := 0) (u := u) (hnb k))
    exact h1
  have m0 := fun k u v z => block_cell (i := 0) (hsN k u v z) rfl
  have m1 := fun k u v z => block_cell (i := 1) (hsN k u v z) rfl
  have HSB := Lib.hid hsB
  clear hnb hsB hsN
  have HB := Lib.hid hB
  clear hB
  go_enter Tryd.func61, Tryd.ntmps61
  go_wp2_with fail
  go_quiet (fail)
  go_wp2_with fail
  go_region
  all_goals go_wp2_with fail
  all_goals go_quiet (fail)
  all_goals go_wp2_with fail
  all_goals go_ret3
  all_goals refine ⟨rfl, ?_, ?_⟩
  all_goals first
    | exact block_set (i := 1) (HSB.out _ _ _ _)
    | exact Mod.below (((((Mod.of_below (F := fun k => k = B) (below_draws w _)).alloc _).setCell (p := ⟨w.heap.size, 0, none⟩) (fun h => absurd h (by simp)) _).setCell (p := ⟨w.heap.size, 1, none⟩) (fun h => absurd h (by simp)) _).setCell (p := ⟨B, 1, none⟩) (fun _ => rfl) _) (below_draws _ _)
end Go.Proofs.YtanimdajohpggaaDoor.Utf0
