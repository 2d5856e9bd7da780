/- What the listed variables of the regex statements give. -/
import Derived.Test.YtnpchkohfomagaaDoorRgX4
import Derived.Test.YtnpchkohfomagaaDoorFLib
import Derived.LaidMore
import Derived.Stop.LaidErr
import Derived.ChangeBears2
import Derived.Deep.Slices
namespace Go.Proofs.YtnpchkohfomagaaDoor.Rgy
open Go.ChangeShapes Go.WideShapes Go.ChangeAt Go.RowKit Go.Trav Go.Utf Go.Rg Go.Proofs.YtnpchkohfomagaaDoor.Seq Go.Proofs.YtnpchkohfomagaaDoor.Rgw
set_option linter.unusedVariables false
set_option maxRecDepth 100000
theorem pair_cells {w : World} {t : TypeId} {k : IntKind} {a b : Int} {fs : Array Field} {f : Nat} {cs : List Value} {p : List MemPlace} {enc : TypeId × Value → Unit} {spare : Nat → Bool} {held : Bool}
    (hs : Tryd.prog.underlying t = some (.struct fs)) (F0 F1 : Field) (hf0 : fs[0]? = some F0) (hf1 : fs[1]? = some F1) (o0 : F0.offset = 0) (o1 : F1.offset = 1) (k0 : Tryd.prog.cellsOf F0.type = 1) (k1 : Tryd.prog.cellsOf F1.type = 1)
    (u0 : Tryd.prog.underlying F0.type = some (.int k)) (u1 : Tryd.prog.underlying F1.type = some (.int k))
    (hd : DataW.trod enc Tryd.prog w 0 spare held f t cs = some (.agg [.lit (.int k a), .lit (.int k b)], p)) : cs[0]? = some (.int k a) ∧ cs[1]? = some (.int k b) := by
  obtain ⟨xs, m, _, hx, _, _, hf⟩ := DataW.trod_struct hs hd
  simp only [Prod.mk.injEq, DataW.agg.injEq] at hx
  obtain ⟨hx, _⟩ := hx
  have h0 := hf 0 F0 hf0
  have h1 := hf 1 F1 hf1
  rw [o0, k0] at h0
  rw [o1, k1] at h1
  have hl : xs.length = 2 := by have := congrArg List.length hx; simp at this; omega
  obtain ⟨x0, x1, rfl⟩ : ∃ x0 x1, xs = [x0, x1] := by
    cases xs with
    | nil => simp at hl
    | cons x0 r => cases r with
      | nil => simp at hl
      | cons x1 r2 => cases r2 with
        | nil => exact ⟨x0, x1, rfl⟩
        | cons _ _ => simp at hl
  · simp only [List.map_cons, List.map_nil, List.cons.injEq, and_true] at hx
    obtain ⟨e0, e1⟩ := hx
    obtain ⟨n0, c0, d0, _⟩ := DataW.trod_int u0 h0
    obtain ⟨n1, c1, d1, _⟩ := DataW.trod_int u1 h1
    rw [d0] at e0
    rw [d1] at e1
    simp at e0 e1
    subst e0 e1
    constructor
    · have := congrArg (fun l => l[0]?) c0
      simpa [List.getElem?_take] using this
    · have := congrArg (fun l => l[0]?) c1
      simpa [List.getElem?_take, List.getElem?_drop] using this
theorem glob_of {W : World} (h : laidMet Tryd.prog Rows.fnRegexRefusedRow.laid W) : Glob W := by
  obtain ⟨ps, ⟨g0, t0, cs0, f0, p0, q0, hg0, ht0, hv0, hd0, ⟨g1, t1, cs1, f1, p1, q1, hg1, ht1, hv1, hd1, _, _⟩, _⟩, _, _⟩ := h
  have G0 : Tryd.prog.globalNamed "pub-traverser/pub/vellum/utf8.nilRange" = some 9 := by kernel_rfl
  have G1 : Tryd.prog.globalNamed "pub-traverser/pub/vellum/utf8.nilScalarRange" = some 8 := by kernel_rfl
  have R0 : (Tryd.prog.globals[9]?).map (·.type) = some 195 := by kernel_rfl
  have R1 : (Tryd.prog.globals[8]?).map (·.type) = some 187 := by kernel_rfl
  obtain rfl := Option.some.inj (G0.symm.trans hg0)
  obtain rfl := Option.some.inj (G1.symm.trans hg1)
  obtain rfl := Option.some.inj (R0.symm.trans ht0)
  obtain rfl := Option.some.inj (R1.symm.trans ht1)
  obtain ⟨c0, c1⟩ := pair_cells Tryd.underlying195 _ _ rfl rfl rfl rfl (by kernel_rfl) (by kernel_rfl) Tryd.underlying5 Tryd.underlying5 hd0
  obtain ⟨d0, d1⟩ := pair_cells Tryd.underlying187 _ _ rfl rfl rfl rfl (by kernel_rfl) (by kernel_rfl) Tryd.underlying21 Tryd.underlying21 hd1
  have a0 := World.var?_cell G0 hv0 0
  have a1 := World.var?_cell G0 hv0 1
  have b0 := World.var?_cell G1 hv1 0
  have b1 := World.var?_cell G1 hv1 1
  exact ⟨by rw [b0]; simpa using d0, by rw [b1]; simpa using d1, by rw [a0]; simpa using c0, by rw [a1]; simpa using c1⟩
theorem es_star : "*" ++ "errors.errorString" = "*errors.errorString" := by decide
theorem es_row (u : TypeId) (h : Tryd.prog.typeName? 3 u = some "*errors.errorString") : u = 211 :=
  typeName_ptr_named (nm := "errors.errorString") (by rw [es_star]; kernel_rfl) (by kernel_rfl) (by decide) u (by rw [es_star]; exact h)
/-- An error that is laid: a pointer, its text behind it. -/
def ErrAt (w : World) (g : Nat) (a : Addr) (text : List UInt8) : Prop :=
  w.cell? ⟨g, 0, none⟩ = some (.iface 211 (.pointer (some a))) ∧ (∃ s : ByteArray, w.cell? a = some (.string s) ∧ s.data.toList = text) ∧ ∃ c T, w.heap[a.block]? = some (.cells c T (0, 0))
theorem err_head {n : String} {text : List UInt8} {r : List (String × DataW Unit)} {W : World} {g : Nat}
    (h : laidMet Tryd.prog ((n, .iface "*errors.errorString" (.ptr (.agg [.lit (.string text)]))) :: r) W)
    (hg : Tryd.prog.globalNamed n = some g) (ht : (Tryd.prog.globals[g]?).map (·.type) = some 66) : ∃ a, ErrAt W g a text := by
  obtain ⟨ps, ⟨g0, t0, cs0, f0, p0, q0, hg0, ht0, hv0, hd0, _, e0⟩, _, hrows⟩ := h
  obtain rfl := Option.some.inj (hg.symm.trans hg0)
  obtain rfl := Option.some.inj (ht.symm.trans ht0)
  subst e0
  obtain ⟨l0⟩ := cs0
  have ok0 : ∀ u v, l0 = [.iface u v] → Value.okWide Tryd.prog W .any 0 u v := fun u v e => by
    subst e
    exact (hrows g 0 (by simp [MemPlace.row])).2 u v (by simpa using World.var?_cell hg0 hv0 0)
  obtain ⟨a0, s0, rfl, hc0, hs0, hz0, rfl⟩ := errorString_of_trod Tryd.underlying66 es_row Tryd.underlying211 Tryd.underlying213 rfl rfl Tryd.underlying9 (by kernel_rfl) (by kernel_rfl) hd0 ok0
  exact ⟨a0, by simpa using World.var?_cell hg0 hv0 0, ⟨s0, hc0, hs0⟩, (hrows a0.block a0.off (by simp [MemPlace.row])).1⟩
theorem ErrAt.ne {w : World} {g g' : Nat} {a b : Addr} {t u : List UInt8} (h : ErrAt w g a t) (k : ErrAt w g' b u) (hn : t ≠ u) : a ≠ b := by
  rintro rfl
  obtain ⟨_, ⟨s, hs, e⟩, _⟩ := h
  obtain ⟨_, ⟨s', hs', e'⟩, _⟩ := k
  rw [hs] at hs'
  cases hs'
  exact hn (e.symm.trans e')
/-- The package's variables, all that the walks want of them. -/
structure Laid (w : World) (ad : Nat → Addr) : Prop where
  env : Env w w.heap.size ad
  errs : ErrK w ad
  h5b : 4 < w.heap.size
theorem Laid.below {w w' : World} {ad : Nat → Addr} (h : Laid w ad) (hb : Below w.heap.size w w') : Laid w' ad :=
  ⟨h.env.up hb.size hb, h.errs.mod hb, Nat.lt_of_lt_of_le h.h5b hb.size⟩
def adOf (a0 a1 a2 a3 a4 : Addr) (k : Nat) : Addr := if k = 1 then a0 else if k = 2 then a1 else if k = 3 then a2 else if k = 4 then a3 else a4
theorem of_laid {W : World} (h : laidMetH Tryd.prog Rows.fnRegexRefusedRow.laid W) : ∃ ad, Laid W ad := by
  rw [MakeChecks.laidMetH_plain _ _ _ (by kernel_rfl)] at h
  have hg := glob_of h
  have h4 := h.tail.tail.tail.tail
  obtain ⟨a4, k4⟩ := err_head (g := 4) h4 (by kernel_rfl) (by kernel_rfl)
  obtain ⟨a1, k1⟩ := err_head (g := 1) h4.tail (by kernel_rfl) (by kernel_rfl)
  obtain ⟨a2, k2⟩ := err_head (g := 2) h4.tail.tail (by kernel_rfl) (by kernel_rfl)
  obtain ⟨a0, k0⟩ := err_head (g := 0) h4.tail.tail.tail (by kernel_rfl) (by kernel_rfl)
  obtain ⟨a3, k3⟩ := err_head (g := 3) h4.tail.tail.tail.tail (by kernel_rfl) (by kernel_rfl)
  refine ⟨adOf a0 a1 a2 a3 a4, ⟨hg, hg.lt, ⟨World.block_lt_of_cell? W _ k0.1, World.block_lt_of_cell? W _ k1.1, World.block_lt_of_cell? W _ k2.1, World.block_lt_of_cell? W _ k3.1⟩, k0.1, k1.1, k2.1, k3.1⟩, ⟨k0.1, k1.1, k2.1, k3.1, k4.1, fun i j hi hij hj => ?_, fun k h1 h2 => ?_⟩, World.block_lt_of_cell? W _ k4.1⟩
  · have n01 := k1.ne k0 (by decide)
    have n02 := k2.ne k0 (by decide)
    have n03 := k3.ne k0 (by decide)
    have n04 := k4.ne k0 (by decide)
    have n12 := k2.ne k1 (by decide)
    have n13 := k3.ne k1 (by decide)
    have n14 := k4.ne k1 (by decide)
    have n23 := k3.ne k2 (by decide)
    have n24 := k4.ne k2 (by decide)
    have n34 := k4.ne k3 (by decide)
    obtain ⟨rfl, rfl⟩ | ⟨rfl, rfl⟩ | ⟨rfl, rfl⟩ | ⟨rfl, rfl⟩ | ⟨rfl, rfl⟩ | ⟨rfl, rfl⟩ | ⟨rfl, rfl⟩ | ⟨rfl, rfl⟩ | ⟨rfl, rfl⟩ | ⟨rfl, rfl⟩ : (i = 1 ∧ j = 2) ∨ (i = 1 ∧ j = 3) ∨ (i = 1 ∧ j = 4) ∨ (i = 1 ∧ j = 5) ∨ (i = 2 ∧ j = 3) ∨ (i = 2 ∧ j = 4) ∨ (i = 2 ∧ j = 5) ∨ (i = 3 ∧ j = 4) ∨ (i = 3 ∧ j = 5) ∨ (i = 4 ∧ j = 5) := by omega
    · exact n01
    · exact n02
    · exact n03
    · exact n04
    · exact n12
    · exact n13
    · exact n14
    · exact n23
    · exact n24
    · exact n34
  · obtain rfl | rfl | rfl | rfl | rfl : k = 1 ∨ k = 2 ∨ k = 3 ∨ k = 4 ∨ k = 5 := by omega
    · exact k0.2.2
    · exact k1.2.2
    · exact k2.2.2
    · exact k3.2.2
    · exact k4.2.2
end Go.Proofs.YtnpchkohfomagaaDoor.Rgy
