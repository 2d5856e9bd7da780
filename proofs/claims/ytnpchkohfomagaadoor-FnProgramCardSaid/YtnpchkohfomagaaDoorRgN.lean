/- The builder's loop (plain): its start, its end. -/
import Derived.Test.YtnpchkohfomagaaDoorRgR
import Derived.Test.YtnpchkohfomagaaDoorRgI
namespace Go.Rg
set_option linter.unusedVariables false
theorem Inv.start {l : List In} (hs : Sound l) (h0 : 0 < l.length) (hn : startK l ≠ []) : Inv l [startK l] [List.replicate 256 0] [] [] 1 0 := by
  refine ⟨by simp, by simpa using ⟨isK_start hs h0, hn⟩, rfl, rfl, fun r hr => by rw [List.mem_singleton.mp hr, List.length_replicate], by simp, by simp, by simp, by simp, fun i K hi => ?_⟩
  rcases i with _ | i
  · exact Or.inr (Or.inl ⟨rfl, fun c hc => absurd hc (by omega)⟩)
  · simp at hi
theorem Inv.made {l : List In} {Ks nx : List (List Nat)} {seen : List Nat} {s : Nat} (h : Inv l Ks nx seen [] s 256) : Made l Ks nx :=
  Or.inr ⟨h.first, (h.isK _ (List.mem_of_getElem? h.first)).2, h.fin⟩
/-- More than 10000 states (with the one that is none): more than 6 instructions take a byte or match. -/
theorem Inv.many {l : List In} {Ks nx : List (List Nat)} {seen stack : List Nat} {s b : Nat} (h : Inv l Ks nx seen stack s b) (hm : 10000 < Ks.length + 1) : 6 < (taking l).length := by
  by_cases h6 : (taking l).length ≤ 6
  · have := few_states h6 h.nd fun K hK => (h.isK K hK).1
    omega
  · omega
theorem Inv.rows {l : List In} {Ks nx : List (List Nat)} (hd : ∀ i K, Ks[i]? = some K → RowTo l Ks nx i K 256) (hl : nx.length = Ks.length) (hr : ∀ r ∈ nx, r.length = 256) : ∀ r ∈ nx, ∀ n ∈ r, n ≤ Ks.length := by
  intro r hr0 n hn
  obtain ⟨i, hi, rfl⟩ := List.getElem_of_mem hr0
  obtain ⟨c, hc, rfl⟩ := List.getElem_of_mem hn
  have h256 := hr _ hr0
  obtain ⟨r', m, e1, e2, e3⟩ := hd i _ (List.getElem?_eq_getElem (by omega : i < Ks.length)) c (by omega)
  rw [List.getElem?_eq_getElem hi] at e1
  cases e1
  rw [List.getElem?_eq_getElem hc] at e2
  cases e2
  exact e3.le
end Go.Rg
