/- The automaton's table along a text: plain. -/
import Derived.Test.YtnpchkohfomagaaDoorRgB
namespace Go.Rg
set_option linter.unusedVariables false
/-- The table's next state. -/
def accT (Ks nx : List (List Nat)) (n c : Nat) : Nat := if n < Ks.length + 1 then (if n = 0 then 0 else (nx[n - 1]?.getD [])[c]?.getD 0) else 0
def matT (l : List In) (Ks : List (List Nat)) (n : Nat) : Bool := if n < Ks.length + 1 then (if n = 0 then false else isM l (Ks[n - 1]?.getD [])) else false
def canT (Ks : List (List Nat)) (n : Nat) : Bool := decide (n < Ks.length + 1) && decide (0 < n)
def runT (Ks nx : List (List Nat)) (s : List Nat) : Nat → Nat
  | 0 => 1
  | i + 1 => accT Ks nx (runT Ks nx s i) (s[i]?.getD 0)
/-- What is made: no state at all, where the first one is empty, or a table that is right. -/
def Made (l : List In) (Ks nx : List (List Nat)) : Prop := (Ks = [] ∧ startK l = []) ∨ (Ks[0]? = some (startK l) ∧ startK l ≠ [] ∧ ∀ i K, Ks[i]? = some K → RowTo l Ks nx i K 256)
theorem num_mat {l : List In} {Ks : List (List Nat)} {K : List Nat} {n : Nat} (h : Num Ks K n) : matT l Ks n = isM l K := by
  rcases h with ⟨rfl, rfl⟩ | ⟨_, i, e, rfl⟩
  · simp [matT, isM]
  · obtain ⟨hlt, he⟩ := List.getElem?_eq_some_iff.mp e
    simp [matT, hlt, he]
theorem num_can {Ks : List (List Nat)} {K : List Nat} {n : Nat} (h : Num Ks K n) : canT Ks n = !K.isEmpty := by
  rcases h with ⟨rfl, rfl⟩ | ⟨hk, i, e, rfl⟩
  · simp [canT]
  · obtain ⟨hlt, _⟩ := List.getElem?_eq_some_iff.mp e
    cases K with
    | nil => exact absurd rfl hk
    | cons a t => simp [canT, hlt]
theorem num_acc {l : List In} {Ks nx : List (List Nat)} (hd : ∀ i K, Ks[i]? = some K → RowTo l Ks nx i K 256) {K : List Nat} {n c : Nat} (hc : c < 256) (h : Num Ks K n) : Num Ks (stepK l K c) (accT Ks nx n c) := by
  rcases h with ⟨rfl, rfl⟩ | ⟨hk, i, e, rfl⟩
  · exact Or.inl ⟨step_nil l c, by simp [accT]⟩
  · obtain ⟨hlt, _⟩ := List.getElem?_eq_some_iff.mp e
    obtain ⟨r, m, e1, e2, e3⟩ := hd i K e c hc
    have : accT Ks nx (i + 1) c = m := by simp [accT, hlt, e1, e2]
    rw [this]; exact e3
theorem byte_lt {s : List Nat} (h : ∀ c ∈ s, c < 256) (i : Nat) : s[i]?.getD 0 < 256 := by
  cases e : s[i]? with
  | none => simp
  | some c => simp; exact h c (List.mem_of_getElem? e)
theorem run_num {l : List In} {Ks nx : List (List Nat)} (h0 : Ks[0]? = some (startK l)) (hn : startK l ≠ []) (hd : ∀ i K, Ks[i]? = some K → RowTo l Ks nx i K 256) {s : List Nat} (hs : ∀ c ∈ s, c < 256) : ∀ i, Num Ks (kAt l s i) (runT Ks nx s i) := by
  intro i
  induction i with
  | zero => exact Or.inr ⟨hn, 0, h0, rfl⟩
  | succ i ih => exact num_acc hd (byte_lt hs i) ih
theorem kAt_nil {l : List In} (h : startK l = []) (s : List Nat) : ∀ i, kAt l s i = [] := by
  intro i
  induction i with
  | zero => exact h
  | succ i ih => simp only [kAt, ih]; rfl
theorem run_le {s : List Nat} {nx : List (List Nat)} : ∀ i, runT [] nx s i ≤ 1 := by
  intro i
  cases i with
  | zero => exact Nat.le_refl 1
  | succ i => simp only [runT, accT, List.length_nil]; split
              · split <;> first | omega | simp_all
              · omega
/-- Behind each beginning of a text the table says what the sets say. -/
theorem made_run {l : List In} {Ks nx : List (List Nat)} (h : Made l Ks nx) {s : List Nat} (hs : ∀ c ∈ s, c < 256) (i : Nat) : matT l Ks (runT Ks nx s i) = isM l (kAt l s i) ∧ canT Ks (runT Ks nx s i) = !(kAt l s i).isEmpty := by
  rcases h with ⟨rfl, h0⟩ | ⟨h0, hn, hd⟩
  · have hr := run_le (s := s) (nx := nx) i
    rw [kAt_nil h0]
    generalize runT [] nx s i = n at hr ⊢
    rcases n with _ | _ | n
    · simp [matT, canT, isM]
    · simp [matT, canT, isM]
    · omega
  · have := run_num h0 hn hd hs i
    exact ⟨num_mat this, num_can this⟩
end Go.Rg
