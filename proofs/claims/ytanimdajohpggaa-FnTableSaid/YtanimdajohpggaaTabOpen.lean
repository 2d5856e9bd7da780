/- A table that came in. -/
import Derived.Test.YtanimdajohpggaaTable1
import Derived.Lib.SmallJoins
namespace Go.Proofs.Ytanimdajohpggaa.Table
open Go.ChangeShapes Go.WideShapes Go.ChangeAt Go.RowKit Go.Trav Go.Joins
set_option linter.unusedVariables false
set_option maxRecDepth 100000
variable {H : Type} {enc : TypeId × Value → H} {w : World} {spare : Nat → Bool} {held : Bool}
theorem i64_of {z : Int} (h : (Lit.int .i64 z).wf = true) : I64 z := bounds_i64 h
/-- A list of numbers. -/
theorem ints_of {n : Nat} {v : Value} {x} (h : DataW.trod enc Try.prog w 0 spare held n 29 [v] = some x) : ∃ (m : Nat) (zs : List Int), Reads w v m 1 (zs.map iV) ∧ ∀ z ∈ zs, I64 z := by
  obtain ⟨ao, len, cap, e⟩ := slice_one Try.underlying29 h
  have hc : v.cells.toList = [v] := by subst e; rfl
  obtain ⟨css, m, k⟩ := slice_reads Try.underlying29 (s := 1) (by kernel_rfl) (by decide) e (d := x.1) (ps := x.2) ⟨n, by rw [hc]; exact h⟩ (fun cs => ∃ z : Int, cs = [iV z] ∧ I64 z) (fun n cs x hl hx => by
    obtain ⟨z, rfl, hz⟩ := int_cell Try.underlying3 hl hx
    exact ⟨z, rfl, i64_of hz⟩)
  have : ∃ zs : List Int, css.flatten = zs.map iV ∧ zs.length = css.length ∧ ∀ z ∈ zs, I64 z := by
    clear k
    induction css with
    | nil => exact ⟨[], rfl, rfl, by simp⟩
    | cons a r ih =>
      obtain ⟨zs, h1, h2, h3⟩ := ih (fun cs hcs => m cs (by simp [hcs]))
      obtain ⟨_, z, rfl, hz⟩ := m a (by simp)
      exact ⟨z :: zs, by rw [List.flatten_cons, h1]; rfl, by simp [h2], fun y hy => by rcases List.mem_cons.1 hy with rfl | hy; exact hz; exact h3 y hy⟩
  obtain ⟨zs, h1, h2, h3⟩ := this
  rw [h1] at k
  exact ⟨_, zs, k, h3⟩
theorem bools_of {n : Nat} {v : Value} {x} (h : DataW.trod enc Try.prog w 0 spare held n 34 [v] = some x) : ∃ (m : Nat) (bs : List Bool), Reads w v m 1 (bs.map Value.bool) := by
  obtain ⟨ao, len, cap, e⟩ := slice_one Try.underlying34 h
  have hc : v.cells.toList = [v] := by subst e; rfl
  obtain ⟨css, m, k⟩ := slice_reads Try.underlying34 (s := 1) (by kernel_rfl) (by decide) e (d := x.1) (ps := x.2) ⟨n, by rw [hc]; exact h⟩ (fun cs => ∃ z : Bool, cs = [.bool z]) (fun n cs x hl hx => by
    match cs, hl with
    | [c], _ =>
      obtain ⟨z, rfl⟩ := bool_one Try.underlying4 hx
      exact ⟨z, rfl⟩)
  have : ∃ zs : List Bool, css.flatten = zs.map Value.bool := by
    clear k
    induction css with
    | nil => exact ⟨[], rfl⟩
    | cons a r ih =>
      obtain ⟨zs, h1⟩ := ih (fun cs hcs => m cs (by simp [hcs]))
      obtain ⟨_, z, rfl⟩ := m a (by simp)
      exact ⟨z :: zs, by rw [List.flatten_cons, h1]; rfl⟩
  obtain ⟨zs, h1⟩ := this
  rw [h1] at k
  exact ⟨_, zs, k⟩
theorem rows_of {n : Nat} {v : Value} {x} (h : DataW.trod enc Try.prog w 0 spare held n 33 [v] = some x) : ∃ (m : Nat) (rvs : List Value), Rows2 w v m rvs := by
  obtain ⟨ao, len, cap, e⟩ := slice_one Try.underlying33 h
  have hc : v.cells.toList = [v] := by subst e; rfl
  obtain ⟨css, m, k⟩ := slice_reads Try.underlying33 (s := 1) (by kernel_rfl) (by decide) e (d := x.1) (ps := x.2) ⟨n, by rw [hc]; exact h⟩ (fun cs => ∃ rv : Value, cs = [rv] ∧ ∃ (m : Nat) (zs : List Int), Reads w rv m 1 (zs.map iV) ∧ ∀ z ∈ zs, I64 z) (fun n cs x hl hx => by
    match cs, hl with
    | [c], _ => exact ⟨c, rfl, ints_of hx⟩)
  have : ∀ rv ∈ css.flatten, ∃ (m : Nat) (zs : List Int), Reads w rv m 1 (zs.map iV) ∧ ∀ z ∈ zs, I64 z := by
    intro rv hrv
    obtain ⟨cs, hcs, hm⟩ := List.mem_flatten.1 hrv
    obtain ⟨_, rv', rfl, h3⟩ := m cs hcs
    rw [List.mem_singleton.1 hm]
    exact h3
  exact ⟨_, css.flatten, k, fun i rv hi => this rv (List.mem_of_getElem? hi)⟩
/-- The table. -/
theorem raw_of {v : Value} {d : DataW H} {ps : List MemPlace} {r : Reach} {b0 : Nat} (hv : Value.okWide Try.prog w r b0 36 v) (h : DataW.Trod enc Try.prog w 0 spare held 36 v d ps) :
    ∃ (st : Int) (cv nv mv av bv : Value) (nc nn nm : Nat) (zs : List Int) (rvs : List Value) (bs : List Bool), v = RVal st cv nv mv av bv ∧ Raw w st cv nv mv av bv nc nn nm zs rvs bs := by
  obtain ⟨cs, rfl, hsz⟩ := okWide_struct Try.underlying36 hv
  have hC : Try.prog.cellsOf 36 = 6 := by kernel_rfl
  rw [hC] at hsz
  obtain ⟨fuel, hf⟩ := h
  have hfc := field_cells Try.underlying36 (by kernel_rfl) hf
  obtain ⟨l⟩ := cs
  match l, hsz with
  | [c0, c1, c2, c3, c4, c5], _ =>
    obtain ⟨_, _, g0⟩ := hfc 0 _ rfl
    obtain ⟨_, _, g1⟩ := hfc 1 _ rfl
    obtain ⟨_, _, g2⟩ := hfc 2 _ rfl
    obtain ⟨_, _, g3⟩ := hfc 3 _ rfl
    obtain ⟨_, _, g4⟩ := hfc 4 _ rfl
    obtain ⟨_, _, g5⟩ := hfc 5 _ rfl
    obtain ⟨z, rfl, hz⟩ := int_one Try.underlying3 g0
    obtain ⟨nc, zs, k1, k2⟩ := ints_of g1
    obtain ⟨nn, rvs, k3⟩ := rows_of g2
    obtain ⟨nm, bs, k4⟩ := bools_of g3
    obtain ⟨na, ba, k5⟩ := bools_of g4
    obtain ⟨nb, bb, k6⟩ := bools_of g5
    obtain ⟨ao, ac, e5⟩ := k5.form
    obtain ⟨bo, bc, e6⟩ := k6.form
    exact ⟨z, _, _, _, _, _, nc, nn, nm, zs, rvs, bs, rfl, i64_of hz, k1, k2, k3, k4, ⟨ao, na, ac, e5, k5.bound⟩, ⟨bo, nb, bc, e6, k6.bound⟩⟩
end Go.Proofs.Ytanimdajohpggaa.Table
