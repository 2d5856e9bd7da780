/- What the listed variables of the package utf8 give. -/
import Derived.Test.YtanimdajohpggaaDoorSeq9
import Derived.Test.YtanimdajohpggaaDoorFLib
import Derived.LaidMore
import Derived.ChangeBears2
import Derived.Deep.Slices
namespace Go.Proofs.YtanimdajohpggaaDoor.Seq
open Go.ChangeShapes Go.WideShapes Go.ChangeAt Go.RowKit Go.Trav Go.Utf
set_option linter.unusedVariables false
set_option maxRecDepth 100000
theorem pair_cells {w : World} {t : TypeId} {k : IntKind} {a b : Int} {fs : Array Field} {f : Nat} {cs : List Value} {p : List MemPlace} {enc : TypeId × Value → Unit} {spare : Nat → Bool} {held : Bool}
    (hs : Tryd.prog.underlying t = some (.struct fs)) (F0 F1 : Field) (hf0 : fs[0]? = some F0) (hf1 : fs[1]? = some F1) (o0 : F0.offset = 0) (o1 : F1.offset = 1) (k0 : Tryd.prog.cellsOf F0.type = 1) (k1 : Tryd.prog.cellsOf F1.type = 1)
    (u0 : Tryd.prog.underlying F0.type = some (.int k)) (u1 : Tryd.prog.underlying F1.type = some (.int k))
    (hd : DataW.trod enc Tryd.prog w 0 spare held f t cs = some (.agg [.lit (.int k a), .lit (.int k b)], p)) : cs[0]? = some (.int k a) ∧ cs[1]? = some (.int k b) := by
  obtain ⟨xs, m, _, hx, _, _, hf⟩ := DataW.trod_struct hs hd
  simp only [Prod.mk.injEq, DataW.agg.injEq] at hx
  obtain ⟨hx, _⟩ := hx
  have h0 := hf 0 F0 hf0
  have h1 := hf 1 F1 hf1
  rw [o0, k0] at h0
  rw [o1, k1] at h1
  have hl : xs.length = 2 := by have := congrArg List.length hx; simp at this; omega
  obtain ⟨x0, x1, rfl⟩ : ∃ x0 x1, xs = [x0, x1] := by
    cases xs with
    | nil => simp at hl
    | cons x0 r => cases r with
      | nil => simp at hl
      | cons x1 r2 => cases r2 with
        | nil => exact ⟨x0, x1, rfl⟩
        | cons _ _ => simp at hl
  · simp only [List.map_cons, List.map_nil, List.cons.injEq, and_true] at hx
    obtain ⟨e0, e1⟩ := hx
    obtain ⟨n0, c0, d0, _⟩ := DataW.trod_int u0 h0
    obtain ⟨n1, c1, d1, _⟩ := DataW.trod_int u1 h1
    rw [d0] at e0
    rw [d1] at e1
    simp at e0 e1
    subst e0 e1
    constructor
    · have := congrArg (fun l => l[0]?) c0
      simpa [List.getElem?_take] using this
    · have := congrArg (fun l => l[0]?) c1
      simpa [List.getElem?_take, List.getElem?_drop] using this
theorem of_laid {W : World} (h : laidMetH Tryd.prog Rows.fnSequencesRow.laid W) : Glob W := by
  rw [MakeChecks.laidMetH_plain _ _ _ (by kernel_rfl)] at h
  obtain ⟨ps, ⟨g0, t0, cs0, f0, p0, q0, hg0, ht0, hv0, hd0, ⟨g1, t1, cs1, f1, p1, q1, hg1, ht1, hv1, hd1, _, _⟩, _⟩, _, _⟩ := h
  have G0 : Tryd.prog.globalNamed "pub-traverser/pub/vellum/utf8.nilRange" = some 2 := by kernel_rfl
  have G1 : Tryd.prog.globalNamed "pub-traverser/pub/vellum/utf8.nilScalarRange" = some 1 := by kernel_rfl
  have R0 : (Tryd.prog.globals[2]?).map (·.type) = some 111 := by kernel_rfl
  have R1 : (Tryd.prog.globals[1]?).map (·.type) = some 130 := by kernel_rfl
  obtain rfl := Option.some.inj (G0.symm.trans hg0)
  obtain rfl := Option.some.inj (G1.symm.trans hg1)
  obtain rfl := Option.some.inj (R0.symm.trans ht0)
  obtain rfl := Option.some.inj (R1.symm.trans ht1)
  obtain ⟨c0, c1⟩ := pair_cells Tryd.underlying111 _ _ rfl rfl rfl rfl (by kernel_rfl) (by kernel_rfl) Tryd.underlying5 Tryd.underlying5 hd0
  obtain ⟨d0, d1⟩ := pair_cells Tryd.underlying130 _ _ rfl rfl rfl rfl (by kernel_rfl) (by kernel_rfl) Tryd.underlying21 Tryd.underlying21 hd1
  have a0 := World.var?_cell G0 hv0 0
  have a1 := World.var?_cell G0 hv0 1
  have b0 := World.var?_cell G1 hv1 0
  have b1 := World.var?_cell G1 hv1 1
  exact ⟨by rw [b0]; simpa using d0, by rw [b1]; simpa using d1, by rw [a0]; simpa using c0, by rw [a1]; simpa using c1⟩
end Go.Proofs.YtanimdajohpggaaDoor.Seq
