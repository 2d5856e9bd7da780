/- More small lemmas: owned rows cut, cells of owned rows. No program in sight. -/
import Derived.Test.YtnfagjemhbgfkaaDoorLib
namespace Go.Trav
open Go.ChangeShapes Go.WideShapes Go.ChangeAt Go.RowKit
set_option linter.unusedVariables false
/-- The first m elements of an owned row. -/
theorem ownsRow_cut {w : World} {base : Nat} {e : TypeId} {size : Nat} {ao : Option Addr} {n cap : Nat} {xs : List Value} (h : w.ownsRow base e size (.slice ao n cap) n xs) {m : Nat} (hm : m ≤ n) :
    w.ownsRow base e size (.slice ao m cap) m (xs.take (m * size)) := by
  obtain ⟨h1, h2⟩ := h
  have hle : m * size ≤ n * size := Nat.mul_le_mul_right _ hm
  refine ⟨by rw [List.length_take, h1]; omega, ?_⟩
  rcases h2 with ⟨e1, rfl⟩ | ⟨g, cap', cur, e1, hb, hg, hn, hc, hs, ht⟩
  · left
    simp only [Value.slice.injEq] at e1
    obtain ⟨rfl, e2, rfl⟩ := e1
    obtain rfl : m = 0 := by omega
    simp
  · right
    simp only [Value.slice.injEq] at e1
    obtain ⟨rfl, -, rfl⟩ := e1
    refine ⟨g, cap, cur, rfl, hb, hg, by omega, hc, hs, ?_⟩
    subst ht
    rw [List.take_take]
    congr 1
    omega
/-- Element k's cells of an owned row. -/
theorem ownsRow_at {w : World} {base : Nat} {e : TypeId} {size : Nat} {v : Value} {n : Nat} {xs : List Value} (h : w.ownsRow base e size v n xs) (hp : 0 < xs.length) :
    ∃ g cap, v = .slice (some ⟨g, 0, none⟩) n cap ∧ n ≤ cap ∧ cap ≤ maxLen ∧ base ≤ g ∧ ∀ j u, xs[j]? = some u → w.cell? ⟨g, j, none⟩ = some u ∧ w.frozen? ⟨g, j, none⟩ = false := by
  obtain ⟨h1, h2⟩ := h
  rcases h2 with ⟨e1, rfl⟩ | ⟨g, cap', cur, e1, hb, hg, hn, hc, hs, ht⟩
  · rw [Nat.zero_mul] at h1; omega
  · refine ⟨g, cap', e1, hn, hc, hb, fun j u hj => ⟨?_, block_free hg⟩⟩
    have hj2 : j < xs.length := (List.getElem?_eq_some_iff.1 hj).1
    refine block_cell hg ?_
    rw [← ht] at hj
    rw [List.getElem?_take] at hj
    split at hj
    · simpa using hj
    · cases hj
end Go.Trav
