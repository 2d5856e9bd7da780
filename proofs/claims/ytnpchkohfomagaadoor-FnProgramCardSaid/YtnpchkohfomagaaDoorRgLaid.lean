/- FnProgram: what its listed variables give. -/
import Derived.Test.YtnpchkohfomagaaDoorRgLaw
import Derived.LaidMore
import Derived.Stop.LaidErr
import Derived.ChangeBears2
namespace Go.Proofs.YtnpchkohfomagaaDoor.Rgw
open Go.ChangeShapes Go.WideShapes Go.ChangeAt Go.RowKit Go.Trav Go.Rg
set_option linter.unusedVariables false
set_option maxRecDepth 100000
theorem es_star : "*" ++ "errors.errorString" = "*errors.errorString" := by decide
theorem es_row (u : TypeId) (h : Tryd.prog.typeName? 3 u = some "*errors.errorString") : u = 211 :=
  typeName_ptr_named (nm := "errors.errorString") (by rw [es_star]; kernel_rfl) (by kernel_rfl) (by decide) u (by rw [es_star]; exact h)
/-- An error that is laid: a pointer, its text behind it. -/
def ErrAt (w : World) (g : Nat) (a : Addr) (text : List UInt8) : Prop :=
  w.cell? ⟨g, 0, none⟩ = some (.iface 211 (.pointer (some a))) ∧ (∃ s : ByteArray, w.cell? a = some (.string s) ∧ s.data.toList = text) ∧ ∃ c T, w.heap[a.block]? = some (.cells c T (0, 0))
theorem err_head {n : String} {text : List UInt8} {r : List (String × DataW Unit)} {W : World} {g : Nat}
    (h : laidMet Tryd.prog ((n, .iface "*errors.errorString" (.ptr (.agg [.lit (.string text)]))) :: r) W)
    (hg : Tryd.prog.globalNamed n = some g) (ht : (Tryd.prog.globals[g]?).map (·.type) = some 66) : ∃ a, ErrAt W g a text := by
  obtain ⟨ps, ⟨g0, t0, cs0, f0, p0, q0, hg0, ht0, hv0, hd0, _, e0⟩, _, hrows⟩ := h
  obtain rfl := Option.some.inj (hg.symm.trans hg0)
  obtain rfl := Option.some.inj (ht.symm.trans ht0)
  subst e0
  obtain ⟨l0⟩ := cs0
  have ok0 : ∀ u v, l0 = [.iface u v] → Value.okWide Tryd.prog W .any 0 u v := fun u v e => by
    subst e
    exact (hrows g 0 (by simp [MemPlace.row])).2 u v (by simpa using World.var?_cell hg0 hv0 0)
  obtain ⟨a0, s0, rfl, hc0, hs0, hz0, rfl⟩ := errorString_of_trod Tryd.underlying66 es_row Tryd.underlying211 Tryd.underlying213 rfl rfl Tryd.underlying9 (by kernel_rfl) (by kernel_rfl) hd0 ok0
  exact ⟨a0, by simpa using World.var?_cell hg0 hv0 0, ⟨s0, hc0, hs0⟩, (hrows a0.block a0.off (by simp [MemPlace.row])).1⟩
theorem ErrAt.ne {w : World} {g g' : Nat} {a b : Addr} {t u : List UInt8} (h : ErrAt w g a t) (k : ErrAt w g' b u) (hn : t ≠ u) : a ≠ b := by
  rintro rfl
  obtain ⟨_, ⟨s, hs, e⟩, _⟩ := h
  obtain ⟨_, ⟨s', hs', e'⟩, _⟩ := k
  rw [hs] at hs'
  cases hs'
  exact hn (e.symm.trans e')
theorem of_laid {W : World} (h : laidMetH Tryd.prog Rows.fnProgramRow.laid W) : ∃ a0 a1 a2 a3 a4, Errs W a0 a1 a2 a3 a4 := by
  rw [MakeChecks.laidMetH_plain _ _ _ (by kernel_rfl)] at h
  have h4 := h.tail.tail.tail.tail
  obtain ⟨a4, k4⟩ := err_head (g := 4) h4 (by kernel_rfl) (by kernel_rfl)
  obtain ⟨a1, k1⟩ := err_head (g := 1) h4.tail (by kernel_rfl) (by kernel_rfl)
  obtain ⟨a2, k2⟩ := err_head (g := 2) h4.tail.tail (by kernel_rfl) (by kernel_rfl)
  obtain ⟨a0, k0⟩ := err_head (g := 0) h4.tail.tail.tail (by kernel_rfl) (by kernel_rfl)
  obtain ⟨a3, k3⟩ := err_head (g := 3) h4.tail.tail.tail.tail (by kernel_rfl) (by kernel_rfl)
  refine ⟨a0, a1, a2, a3, a4, k0.1, k1.1, k2.1, k3.1, k4.1, k4.ne k0 (by decide), k4.ne k1 (by decide), k4.ne k2 (by decide), k4.ne k3 (by decide), ?_⟩
  intro a ha
  simp only [List.mem_cons, List.not_mem_nil, or_false] at ha
  rcases ha with rfl | rfl | rfl | rfl | rfl
  · exact k0.2.2
  · exact k1.2.2
  · exact k2.2.2
  · exact k3.2.2
  · exact k4.2.2
end Go.Proofs.YtnpchkohfomagaaDoor.Rgw
