/- A state's key as bytes: plain. -/
import Derived.Test.YtnpchkohfomagaaDoorRgR
import Derived.Test.YtnpchkohfomagaaDoorPk
namespace Go.Rg
open Go.Pk
set_option linter.unusedVariables false
/-- Eight bytes a number. -/
def keyB (K : List Nat) : List Nat := K.flatMap fun x => packed x 8
theorem keyB_nil : keyB [] = [] := rfl
theorem keyB_snoc (K : List Nat) (x : Nat) : keyB (K ++ [x]) = keyB K ++ packed x 8 := by simp [keyB]
theorem keyB_len (K : List Nat) : (keyB K).length = 8 * K.length := by
  induction K with
  | nil => rfl
  | cons a t ih => simp only [keyB, List.flatMap_cons, List.length_append, packed_len, List.length_cons] at ih ⊢; omega
theorem keyB_inj : ∀ (K L : List Nat), (∀ x ∈ K, x < 18446744073709551616) → (∀ x ∈ L, x < 18446744073709551616) → keyB K = keyB L → K = L := by
  intro K
  induction K with
  | nil =>
    intro L _ _ h
    have := congrArg List.length h
    rw [keyB_len, keyB_len] at this
    exact (List.eq_nil_of_length_eq_zero (by simp at this; omega)).symm
  | cons a t ih =>
    intro L h1 h2 h
    cases L with
    | nil => have := congrArg List.length h; rw [keyB_len, keyB_len] at this; simp at this
    | cons b u =>
      simp only [keyB, List.flatMap_cons] at h
      obtain ⟨e1, e2⟩ := List.append_inj h (by rw [packed_len, packed_len])
      have ea := unpacked_packed_of_lt (v := a) (n := 8) (by have := h1 a (by simp); simpa using this)
      have eb := unpacked_packed_of_lt (v := b) (n := 8) (by have := h2 b (by simp); simpa using this)
      rw [e1, eb] at ea
      rw [ea, ih u (fun x hx => h1 x (by simp [hx])) (fun x hx => h2 x (by simp [hx])) e2]
end Go.Rg
