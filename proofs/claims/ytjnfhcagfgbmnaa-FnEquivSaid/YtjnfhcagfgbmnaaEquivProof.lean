/- PROVED: the Go law FnEquiv returns true, and leaves its arguments as they were, at every input that the row speaks of; no further condition. -/
import Derived.Test.YtjnfhcagfgbmnaaRows
import Derived.WalkKit
import Derived.ProofKit
import Derived.OpenShut
import Derived.ShutString
import Derived.ChangeOld
import Derived.Below
import Derived.Test.YtjnfhcagfgbmnaaFLib
import Derived.Test.YtjnfhcagfgbmnaaEquiv
namespace Go.Proofs.Ytjnfhcagfgbmnaa.fnEquiv
open Go.ChangeShapes Go.WideShapes Go.ChangeAt Go.RowKit Go.Trav Go.Joins
open Go.ChangeMaps (open_string shut_string)
set_option linter.unusedVariables false

theorem own : ownKnob Try.prog.godebug = none := by kernel_rfl
theorem laidOut : laidOutB Try.prog = true := by kernel_rfl
theorem arc_cells {H : Type} {enc : TypeId × Value → H} {w : World} {spare : Nat → Bool} {held : Bool} : ∀ n cs x, cs.length = 3 → DataW.trod enc Try.prog w 0 spare held n 62 cs = some x → ∃ y : Node.Arc, cs = Node.arcCells y := by
  intro n cs x hl h
  have hf := field_cells Try.underlying62 (by kernel_rfl) h
  match cs, hl with
  | [c0, c1, c2], _ =>
    obtain ⟨_, _, g0⟩ := hf 0 _ rfl
    obtain ⟨_, _, g1⟩ := hf 1 _ rfl
    obtain ⟨_, _, g2⟩ := hf 2 _ rfl
    obtain ⟨a, rfl, _⟩ := int_one Try.underlying5 g0
    obtain ⟨b, rfl, _⟩ := int_one Try.underlying28 g1
    obtain ⟨c, rfl, _⟩ := int_one Try.underlying3 g2
    exact ⟨(a, b, c), rfl⟩
theorem state_arg {H : Type} {enc : TypeId × Value → H} {w : World} {spare : Nat → Bool} {held : Bool} {v : Value} {d : DataW H} {ps : List MemPlace} {r : Reach} {b0 : Nat} (hv : Value.okWide Try.prog w r b0 42 v) (h : DataW.Trod enc Try.prog w 0 spare held 42 v d ps) :
    ∃ (f : Bool) (o : Int) (a : Value) (n : Nat) (l : List Node.Arc), v = .agg #[.bool f, .int .u64 o, a] ∧ Node.Arcs w a n l := by
  obtain ⟨v0, v1, v2, y0, y1, y2, n, rfl, rfl, rfl, g0, g1, g2⟩ := open_agg3 Try.underlying42 (by kernel_rfl) (by kernel_rfl) hv h
  obtain ⟨f, rfl⟩ := bool_one Try.underlying4 g0
  obtain ⟨o, rfl, _⟩ := int_one Try.underlying28 g1
  obtain ⟨ao, len, cap, rfl⟩ := slice_one Try.underlying40 g2
  obtain ⟨css, m, k⟩ := slice_reads Try.underlying40 (s := 3) (by kernel_rfl) (by decide) rfl ⟨_, g2⟩ _ arc_cells
  obtain ⟨l, _, e⟩ := flat_recs Node.arcCells m
  rw [e] at k
  exact ⟨f, o, _, _, l, rfl, k⟩
set_option maxRecDepth 100000 in
theorem lifted (os : Os) (started : os.Started) (H : Type) (enc : TypeId × Value → H) :
    ReturnsInHanded {} Try.checked os 9 .any (Rows.fnEquivSpec.pre6 enc Try.prog Try.f9 Rows.fnEquivRow.domain false) (Rows.fnEquivSpec.post enc Try.prog Try.f9 false true false false) := by
  refine returnsInHanded_of_change (C := Try.checked) own started (by kernel_rfl) Try.func9
    (ChangeSpec.witness6 (enc := enc) (C := Try.checked) false ⟨#[], #[.agg #[.bool false, .int .u64 0, .slice none 0 0], .agg #[.bool false, .int .u64 0, .slice none 0 0]], []⟩ 8 (by kernel_rfl) (by kernel_rfl) (by kernel_rfl) (by kernel_rfl)) ?_
  intro W base args ds gs before hval0 hW hcnd _
  have hval : ∀ (j : Nat) t v, Try.f9.params[j]? = some t → args[j]? = some v → Value.okWide Try.prog W .any base t v := hval0
  have hW' := hW
  obtain ⟨p, q, hA0, hV, rfl, hfz, hnd⟩ := hW
  have hA : DataW.TrodAll enc Try.prog W 0 (fun _ => true) true Try.f9.params.toList args.toList ds p := hA0
  rw [Try.params9] at hA hval
  obtain ⟨v0, vs0, d0, ds0, p0, q0, hargs, rfl, rfl, h0, r0⟩ := trodAll_cons hA
  obtain ⟨v1, vs1, d1, ds1, p1, q1, rfl, rfl, rfl, h1, r1⟩ := trodAll_cons r0
  obtain ⟨rfl, rfl, rfl⟩ := trodAll_nil r1
  obtain rfl : args = #[v0, v1] := by cases args; simp_all
  obtain ⟨rfl, rfl⟩ := trodVars_none hV
  have lt0 : ∀ x ∈ p0, x.block < W.heap.size := by obtain ⟨m, hm⟩ := h0; exact DataW.trod_lt m _ _ _ hm
  have lt1 : ∀ x ∈ p1, x.block < W.heap.size := by obtain ⟨m, hm⟩ := h1; exact DataW.trod_lt m _ _ _ hm
  clear hA0 hval0
  have key : Calls Try.prog 9 #[v0, v1] W fun e W' => e = .returned (.bool true) ∧ Below W.heap.size W W' := by
    obtain ⟨f, o, a, n, l, rfl, k⟩ := state_arg (hval 0 42 v0 rfl rfl) h0
    obtain ⟨f', o', a', n', l', rfl, k'⟩ := state_arg (hval 1 42 v1 rfl rfl) h1
    exact Node.law_any _ _ _ _ _ _ _ _ _ _ W k k'
  refine key.mono fun e W' ⟨he, bel⟩ => ?_
  subst he
  exact ⟨_, rfl, _, _, _, [], _, [], hW', trodAll_mk1 (shut_bool Try.underlying4 _), (trodAll_cons_mk (Below.trod laidOut (by kernel_rfl) (of_decide_eq_true (by kernel_rfl)) h0 bel lt0) (trodAll_cons_mk (Below.trod laidOut (by kernel_rfl) (of_decide_eq_true (by kernel_rfl)) h1 bel lt1) trodAll_mk0)), rfl, bel.frame _, fun h => by cases h⟩

theorem over : Rows.fnEquivRow.holds Try.pinned (OpenSpec.ofChange Rows.fnEquivSpec) :=
  OpenClaim.holds_of_wide 9 Try.f9 rfl rfl rfl rfl rfl rfl rfl ⟨rfl, rfl, rfl, rfl, rfl⟩ rfl rfl rfl rfl rfl (by kernel_rfl) Try.func9 (by kernel_rfl)
    (of_decide_eq_true (by kernel_rfl)) (by unfold Func.isWrapper; first | (rw [if_pos (by decide +kernel)]; kernel_rfl) | (rw [if_neg (by decide +kernel)]; exact ⟨rfl, rfl⟩))
    (fun os started H enc _ => lifted os started H enc)

theorem proved : Rows.FnEquivSaid :=
  over
#print axioms proved
end Go.Proofs.Ytjnfhcagfgbmnaa.fnEquiv
