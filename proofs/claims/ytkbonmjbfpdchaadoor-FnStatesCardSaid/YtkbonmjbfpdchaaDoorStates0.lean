/- A slice of impl.State: its reading; zzFits8. -/
import Derived.Test.YtkbonmjbfpdchaaDoorNode0
import Derived.Test.YtkbonmjbfpdchaaDoorFLib
import Derived.Deep.RegionHeld3
namespace Go.Proofs.YtkbonmjbfpdchaaDoor.Node
open Go.ChangeShapes Go.WideShapes Go.ChangeAt Go.RowKit Go.Trav Go.Sort
set_option linter.unusedVariables false
structure StV where
  f : Bool
  o : Int
  v : Value
  l : List Arc
def stateCells (x : StV) : List Value := [.bool x.f, .int .u64 x.o, x.v]
theorem stateCells_len (x : StV) : (stateCells x).length = 3 := rfl
structure States (w : World) (v : Value) (n : Nat) (S : List StV) : Prop where
  cells : Reads w v n 3 (S.flatMap stateCells)
  arcs : ∀ x ∈ S, Arcs w x.v x.l.length x.l
theorem States.below {w w' : World} {v : Value} {n : Nat} {S : List StV} (h : States w v n S) (hb : Below w.heap.size w w') : States w' v n S :=
  ⟨h.cells.below hb, fun x hx => Reads.below (h.arcs x hx) hb⟩
theorem States.len {w : World} {v : Value} {n : Nat} {S : List StV} (h : States w v n S) : S.length = n := Reads.recs stateCells stateCells_len h.cells (by omega)
theorem States.at {w : World} {v : Value} {n : Nat} {S : List StV} (h : States w v n S) {k : Nat} (hk : k < n) :
    ∃ b off cap x, v = .slice (some ⟨b, off, none⟩) n cap ∧ S[k]? = some x ∧ w.cell? ⟨b, off + k * 3, none⟩ = some (.bool x.f) ∧ w.cell? ⟨b, off + k * 3 + 1, none⟩ = some (.int .u64 x.o) ∧ w.cell? ⟨b, off + k * 3 + 2, none⟩ = some x.v ∧ Arcs w x.v x.l.length x.l := by
  obtain ⟨b, off, cap, x, rfl, e, hc⟩ := Reads.rec stateCells stateCells_len h.cells (by omega) hk
  exact ⟨b, off, cap, x, rfl, e, hc 0 _ rfl, hc 1 _ rfl, hc 2 _ rfl, h.arcs x (List.mem_of_getElem? e)⟩
theorem flat_recs2 {α : Type} (f : α → List Value) (Q : α → Prop) {s : Nat} {css : List (List Value)} (h : ∀ cs ∈ css, cs.length = s ∧ ∃ y, cs = f y ∧ Q y) : ∃ l : List α, l.length = css.length ∧ css.flatten = l.flatMap f ∧ ∀ x ∈ l, Q x := by
  induction css with
  | nil => exact ⟨[], rfl, rfl, fun x hx => by simp at hx⟩
  | cons c r ih =>
    obtain ⟨l, hl, e, hq⟩ := ih (fun x hx => h x (by simp [hx]))
    obtain ⟨_, y, rfl, hy⟩ := h c (by simp)
    refine ⟨y :: l, by simp [hl], by simp [e], fun x hx => ?_⟩
    rcases List.mem_cons.1 hx with rfl | hx
    · exact hy
    · exact hq x hx
theorem arc_cells {H : Type} {enc : TypeId × Value → H} {w : World} {spare : Nat → Bool} {held : Bool} : ∀ n cs x, cs.length = 3 → DataW.trod enc Tryd.prog w 0 spare held n 54 cs = some x → ∃ y : Arc, cs = arcCells y := by
  intro n cs x hl h
  have hf := field_cells Tryd.underlying54 (by kernel_rfl) h
  match cs, hl with
  | [c0, c1, c2], _ =>
    obtain ⟨_, _, g0⟩ := hf 0 _ rfl
    obtain ⟨_, _, g1⟩ := hf 1 _ rfl
    obtain ⟨_, _, g2⟩ := hf 2 _ rfl
    obtain ⟨a, rfl, _⟩ := int_one Tryd.underlying5 g0
    obtain ⟨b, rfl, _⟩ := int_one Tryd.underlying27 g1
    obtain ⟨c, rfl, _⟩ := int_one Tryd.underlying3 g2
    exact ⟨(a, b, c), rfl⟩
theorem state_cells {H : Type} {enc : TypeId × Value → H} {w : World} {spare : Nat → Bool} {held : Bool} : ∀ n cs x, cs.length = 3 → DataW.trod enc Tryd.prog w 0 spare held n 30 cs = some x → ∃ y : StV, cs = stateCells y ∧ Arcs w y.v y.l.length y.l := by
  intro n cs x hl h
  have hf := field_cells Tryd.underlying30 (by kernel_rfl) h
  match cs, hl with
  | [c0, c1, c2], _ =>
    obtain ⟨_, _, g0⟩ := hf 0 _ rfl
    obtain ⟨_, _, g1⟩ := hf 1 _ rfl
    obtain ⟨_, _, g2⟩ := hf 2 _ rfl
    obtain ⟨a, rfl⟩ := bool_one Tryd.underlying4 g0
    obtain ⟨b, rfl, _⟩ := int_one Tryd.underlying27 g1
    obtain ⟨ao, len, cap, rfl⟩ := slice_one Tryd.underlying28 g2
    obtain ⟨css, m, k⟩ := slice_reads Tryd.underlying28 (s := 3) (by kernel_rfl) (by decide) rfl ⟨_, g2⟩ _ arc_cells
    obtain ⟨l, hl, e⟩ := flat_recs arcCells m
    rw [e, ← hl] at k
    exact ⟨⟨a, b, _, l⟩, rfl, k⟩
theorem states_of {H : Type} {enc : TypeId × Value → H} {w : World} {spare : Nat → Bool} {held : Bool} {v : Value} {d : DataW H} {ps : List MemPlace} {a : Option Addr} {len cap : Nat} (hv : v = .slice a len cap) (h : DataW.Trod enc Tryd.prog w 0 spare held 22 v d ps) :
    ∃ n S, States w v n S := by
  obtain ⟨css, m, k⟩ := slice_reads Tryd.underlying22 (s := 3) (by kernel_rfl) (by decide) hv h _ state_cells
  obtain ⟨S, hl, e, hq⟩ := flat_recs2 stateCells _ m
  rw [e] at k
  exact ⟨_, S, k, hq⟩
end Go.Proofs.YtkbonmjbfpdchaaDoor.Node
