/- How many lists without a number twice there are over a few numbers: plain. -/
import Derived.Test.YtnpchkohfomagaaDoorRgP
namespace Go.Rg
set_option linter.unusedVariables false
theorem length_le_of_sub {α : Type} [BEq α] [LawfulBEq α] : ∀ (L E : List α), L.Nodup → (∀ x ∈ L, x ∈ E) → L.length ≤ E.length := by
  intro L
  induction L with
  | nil => intro E _ _; simp
  | cons a t ih =>
    intro E hn h
    have hn' := List.nodup_cons.mp hn
    have ha : a ∈ E := h a (by simp)
    have h1 := ih (E.erase a) hn'.2 fun x hx => by
      have hne : x ≠ a := fun e => hn'.1 (e ▸ hx)
      exact (List.mem_erase_of_ne hne).mpr (h x (by simp [hx]))
    rw [List.length_erase_of_mem ha] at h1
    have : 0 < E.length := List.length_pos_of_mem ha
    simp; omega
/-- The lists of at most n numbers of A, none twice. -/
def arr : Nat → List Nat → List (List Nat)
  | 0, _ => [[]]
  | n + 1, A => [] :: A.flatMap fun x => (arr n (A.erase x)).map (x :: ·)
def cnt : Nat → Nat → Nat
  | 0, _ => 1
  | n + 1, m => 1 + m * cnt n (m - 1)
theorem mem_arr : ∀ (n : Nat) (A K : List Nat), K.Nodup → (∀ x ∈ K, x ∈ A) → K.length ≤ n → K ∈ arr n A := by
  intro n
  induction n with
  | zero => intro A K _ _ h; cases K with
    | nil => simp [arr]
    | cons a t => simp at h
  | succ n ih =>
    intro A K hn h hl
    cases K with
    | nil => simp [arr]
    | cons a t =>
      have hn' := List.nodup_cons.mp hn
      simp only [arr, List.mem_cons, List.mem_flatMap, List.mem_map]
      right
      refine ⟨a, h a (by simp), t, ih _ _ hn'.2 (fun x hx => ?_) (by simp at hl; omega), rfl⟩
      have hne : x ≠ a := fun e => hn'.1 (e ▸ hx)
      exact (List.mem_erase_of_ne hne).mpr (h x (by simp [hx]))
theorem flat_len {α : Type} (g : Nat → List α) (c : Nat) : ∀ A : List Nat, (∀ x ∈ A, (g x).length = c) → (A.flatMap g).length = A.length * c := by
  intro A
  induction A with
  | nil => simp
  | cons a t ih =>
    intro h
    rw [List.flatMap_cons, List.length_append, h a (by simp), ih fun x hx => h x (by simp [hx]), List.length_cons, Nat.succ_mul, Nat.add_comm]
theorem len_arr : ∀ (n : Nat) (A : List Nat), (arr n A).length = cnt n A.length := by
  intro n
  induction n with
  | zero => intro A; rfl
  | succ n ih =>
    intro A
    simp only [arr, cnt, List.length_cons]
    rw [flat_len _ (cnt n (A.length - 1)) A fun x hx => by rw [List.length_map, ih, List.length_erase_of_mem hx], Nat.add_comm]
theorem cnt_le (m : Nat) (h : m ≤ 6) : cnt 6 m ≤ 1957 := by
  rcases m with _ | _ | _ | _ | _ | _ | _ | m
  all_goals first | decide | omega
/-- Lists over six numbers, none twice in any, no list twice: at most 1957. -/
theorem few (A : List Nat) (hA : A.length ≤ 6) (L : List (List Nat)) (hL : L.Nodup) (h : ∀ K ∈ L, K.Nodup ∧ ∀ x ∈ K, x ∈ A) : L.length ≤ 1957 := by
  have h1 := length_le_of_sub L (arr 6 A) hL fun K hK => by
    have := length_le_of_sub K A (h K hK).1 (h K hK).2
    exact mem_arr 6 A K (h K hK).1 (h K hK).2 (by omega)
  rw [len_arr] at h1
  exact Nat.le_trans h1 (cnt_le _ hA)
end Go.Rg
