/- levenshtein.Alphabet: next. -/
import Derived.Test.YtanimdajohpggaaDoorUtf5
namespace Go.Proofs.YtanimdajohpggaaDoor.Utf0
open Go.ChangeShapes Go.WideShapes Go.ChangeAt Go.RowKit Go.Trav Go.Utf
set_option linter.unusedVariables false
set_option maxRecDepth 100000
def isErr (v : Value) : Prop := ∃ t x, v = .iface t x
theorem new_any (s : ByteArray) (w : World) : Calls Tryd.prog 78 #[.string s] w fun e w' => ∃ t x, e = .returned (.iface t x) ∧ Below w.heap.size w w' := by
  go_enter Tryd.func78, Tryd.ntmps78
  go_wp2_with fail
  go_ret
  exact ⟨_, _, rfl, (Below.refl _ _).alloc (Nat.le_refl _) _⟩
theorem next_end (B : Nat) (ao : Option Addr) (n cap i : Nat) (w : World) (hB : w.heap[B]? = some (.cells #[.slice ao n cap, .int .u32 (i : Int)] 93 (0, 0))) (h : n ≤ i) (hi : i < 4294967296) :
    Calls Tryd.prog 61 #[.pointer (some ⟨B, 0, none⟩)] w fun e w' => ∃ t x, e = .returned (.tuple #[.int .i32 0, .slice none 0 0, .iface t x]) ∧ Below w.heap.size w w' := by
  have c0 : w.cell? ⟨B, 0, none⟩ = some (.slice ao n cap) := block_cell hB rfl
  have c1 : w.cell? ⟨B, 1, none⟩ = some (.int .u32 (i : Int)) := block_cell hB rfl
  have q1 : decide ((n : Int) ≤ (i : Int)) = true := by rw [decide_eq_true_eq]; omega
  have q2 : decide (n ≤ i) = true := by rw [decide_eq_true_eq]; omega
  have ew : IntKind.i64.wrap (i : Int) = (i : Int) := IntWalk.i64_in _ (by omega)
  clear hB hi
  go_enter Tryd.func61, Tryd.ntmps61
  go_wp2_with fail
  go_quiet (fail)
  go_wp2_with fail
  refine (new_any _ _).mono ?_
  rintro e w1 ⟨t, x, rfl, hb⟩
  go_wp2_with fail
  go_ret3
  exact ⟨t, x, rfl, (below_draws w _).trans (hb.mono (by simp))⟩
end Go.Proofs.YtanimdajohpggaaDoor.Utf0
