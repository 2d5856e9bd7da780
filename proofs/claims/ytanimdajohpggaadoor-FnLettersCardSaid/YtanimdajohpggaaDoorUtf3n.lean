/- laws.narrow. -/
import Derived.Test.YtanimdajohpggaaDoorUtf3
namespace Go.Proofs.YtanimdajohpggaaDoor.Utf0
open Go.ChangeShapes Go.WideShapes Go.ChangeAt Go.RowKit Go.Trav Go.Utf
set_option linter.unusedVariables false
set_option maxRecDepth 100000
theorem narrow_any (s : ByteArray) (v : Value) (n : Nat) (xs : List Value) (w : World) (h : Reads w v n 1 xs) :
    Calls Tryd.prog 29 #[.string s, v] w fun e w' => e = .returned (.bool (decide (n = s.size ∨ s.size ≤ 24))) ∧ w = w' := by
  obtain ⟨ao, cap, rfl⟩ := h.form
  clear h
  by_cases h1 : n = s.size
  · have E : Hid (decide (n = s.size ∨ s.size ≤ 24) = true) := Lib.hid (by simp [h1])
    have hb : ((n : Int) == (s.size : Int)) = true := by rw [h1]; exact beq_self_eq_true _
    clear h1
    go_enter Tryd.func29, Tryd.ntmps29
    go_wp2_with fail
    go_ret
    exact ⟨by rw [E.out]; rfl, rfl⟩
  · have hb : ((n : Int) == (s.size : Int)) = false := beq_eq_false_iff_ne.2 (by omega)
    by_cases h2 : s.size ≤ 24
    · have E : Hid (decide (n = s.size ∨ s.size ≤ 24) = true) := Lib.hid (by simp [h2])
      have q1 : decide ((s.size : Int) ≤ 24) = true := by rw [decide_eq_true_eq]; omega
      clear h1
      go_enter Tryd.func29, Tryd.ntmps29
      go_wp2_with fail
      go_ret
      exact ⟨by rw [E.out]; rfl, rfl⟩
    · have E : Hid (decide (n = s.size ∨ s.size ≤ 24) = false) := Lib.hid (by simp [h1]; omega)
      have q1 : decide ((s.size : Int) ≤ 24) = false := by rw [decide_eq_false_iff_not]; omega
      clear h1
      go_enter Tryd.func29, Tryd.ntmps29
      go_wp2_with fail
      go_ret
      exact ⟨by rw [E.out]; rfl, rfl⟩
end Go.Proofs.YtanimdajohpggaaDoor.Utf0
