/- Slices of impl.State as given: their numbers are within their kinds. -/
import Derived.Test.YtkbonmjbfpdchaaDoorStates0
namespace Go.Proofs.YtkbonmjbfpdchaaDoor.Node
open Go.ChangeShapes Go.WideShapes Go.ChangeAt Go.RowKit Go.Trav Go.Sort
set_option linter.unusedVariables false
set_option linter.unusedSimpArgs false
def ArcOk (y : Arc) : Prop := (0 ≤ y.1 ∧ y.1 ≤ 255) ∧ (0 ≤ y.2.1 ∧ y.2.1 ≤ 18446744073709551615)
def StOk (y : StV) : Prop := (0 ≤ y.o ∧ y.o ≤ 18446744073709551615) ∧ ∀ a ∈ y.l, ArcOk a
theorem arc_cellsB {H : Type} {enc : TypeId × Value → H} {w : World} {spare : Nat → Bool} {held : Bool} : ∀ n cs x, cs.length = 3 → DataW.trod enc Tryd.prog w 0 spare held n 54 cs = some x → cs.length = 3 ∧ ∃ y : Arc, cs = arcCells y ∧ ArcOk y := by
  intro n cs x hl h
  refine ⟨hl, ?_⟩
  have hf := field_cells Tryd.underlying54 (by kernel_rfl) h
  match cs, hl with
  | [c0, c1, c2], _ =>
    obtain ⟨_, _, g0⟩ := hf 0 _ rfl
    obtain ⟨_, _, g1⟩ := hf 1 _ rfl
    obtain ⟨_, _, g2⟩ := hf 2 _ rfl
    obtain ⟨a, rfl, wa⟩ := int_one Tryd.underlying5 g0
    obtain ⟨b, rfl, wb⟩ := int_one Tryd.underlying27 g1
    obtain ⟨c, rfl, _⟩ := int_one Tryd.underlying3 g2
    have ha := bounds_u8 wa
    have hb := bounds_u64 wb
    exact ⟨(a, b, c), rfl, ⟨ha.1, by have := ha.2; simp only; omega⟩, ⟨hb.1, by have := hb.2; simp only; omega⟩⟩
theorem state_cellsB {H : Type} {enc : TypeId × Value → H} {w : World} {spare : Nat → Bool} {held : Bool} : ∀ n cs x, cs.length = 3 → DataW.trod enc Tryd.prog w 0 spare held n 30 cs = some x → ∃ y : StV, cs = stateCells y ∧ (Arcs w y.v y.l.length y.l ∧ StOk y) := by
  intro n cs x hl h
  have hf := field_cells Tryd.underlying30 (by kernel_rfl) h
  match cs, hl with
  | [c0, c1, c2], _ =>
    obtain ⟨_, _, g0⟩ := hf 0 _ rfl
    obtain ⟨_, _, g1⟩ := hf 1 _ rfl
    obtain ⟨_, _, g2⟩ := hf 2 _ rfl
    obtain ⟨a, rfl⟩ := bool_one Tryd.underlying4 g0
    obtain ⟨b, rfl, wb⟩ := int_one Tryd.underlying27 g1
    obtain ⟨ao, len, cap, rfl⟩ := slice_one Tryd.underlying28 g2
    obtain ⟨css, m, k⟩ := slice_reads Tryd.underlying28 (s := 3) (by kernel_rfl) (by decide) rfl ⟨_, g2⟩ _ arc_cellsB
    obtain ⟨l, hl, e, hq⟩ := flat_recs2 arcCells ArcOk (fun cs h => (m cs h).2)
    rw [e, ← hl] at k
    have hb := bounds_u64 wb
    exact ⟨⟨a, b, _, l⟩, rfl, k, ⟨hb.1, by have := hb.2; simp only; omega⟩, hq⟩
theorem states_ofB {H : Type} {enc : TypeId × Value → H} {w : World} {spare : Nat → Bool} {held : Bool} {v : Value} {d : DataW H} {ps : List MemPlace} {a : Option Addr} {len cap : Nat} (hv : v = .slice a len cap) (h : DataW.Trod enc Tryd.prog w 0 spare held 22 v d ps) :
    ∃ n S, States w v n S ∧ ∀ x ∈ S, StOk x := by
  obtain ⟨css, m, k⟩ := slice_reads Tryd.underlying22 (s := 3) (by kernel_rfl) (by decide) hv h _ state_cellsB
  obtain ⟨S, hl, e, hq⟩ := flat_recs2 stateCells _ m
  rw [e] at k
  exact ⟨_, S, ⟨k, fun x hx => (hq x hx).1⟩, fun x hx => (hq x hx).2⟩
end Go.Proofs.YtkbonmjbfpdchaaDoor.Node
