/- PROVED: the Go law FnSparse returns true, and leaves its arguments as they were, at every input that the row speaks of; no further condition. -/
import Derived.Test.YtjnfhcagfgbmnaaRows
import Derived.WalkKit
import Derived.ProofKit
import Derived.OpenShut
import Derived.ShutString
import Derived.ChangeOld
import Derived.Below
import Derived.Test.YtjnfhcagfgbmnaaFLib
import Derived.Test.YtjnfhcagfgbmnaaSparseLaw
namespace Go.Proofs.Ytjnfhcagfgbmnaa.fnSparse
open Go.ChangeShapes Go.WideShapes Go.ChangeAt Go.RowKit Go.Trav Go.Joins
open Go.ChangeMaps (open_string shut_string)
set_option linter.unusedVariables false

theorem own : ownKnob Try.prog.godebug = none := by kernel_rfl
theorem laidOut : laidOutB Try.prog = true := by kernel_rfl
theorem step_cells {H : Type} {enc : TypeId × Value → H} {w : World} {spare : Nat → Bool} {held : Bool} : ∀ n cs x, cs.length = 2 → DataW.trod enc Try.prog w 0 spare held n 49 cs = some x → ∃ y : Sparse.Step, cs = Sparse.stepCells y := by
  intro n cs x hl h
  have hf := field_cells Try.underlying49 (by kernel_rfl) h
  match cs, hl with
  | [c0, c1], _ =>
    obtain ⟨_, _, g0⟩ := hf 0 _ rfl
    obtain ⟨_, _, g1⟩ := hf 1 _ rfl
    obtain ⟨a, rfl, _⟩ := int_one Try.underlying3 g0
    obtain ⟨b, rfl, wb⟩ := int_one Try.underlying46 g1
    have hb := bounds_u64 wb
    obtain ⟨n, rfl⟩ := Int.eq_ofNat_of_zero_le hb.1
    exact ⟨(a, n), rfl⟩
set_option maxRecDepth 100000 in
theorem lifted (os : Os) (started : os.Started) (H : Type) (enc : TypeId × Value → H) :
    ReturnsInHanded {} Try.checked os 10 .any (Rows.fnSparseSpec.pre6 enc Try.prog Try.f10 Rows.fnSparseRow.domain false) (Rows.fnSparseSpec.post enc Try.prog Try.f10 false true false false) := by
  refine returnsInHanded_of_change (C := Try.checked) own started (by kernel_rfl) Try.func10
    (ChangeSpec.witness6 (enc := enc) (C := Try.checked) false ⟨#[], #[.int .u8 0, .slice none 0 0], []⟩ 8 (by kernel_rfl) (by kernel_rfl) (by kernel_rfl) (by kernel_rfl)) ?_
  intro W base args ds gs before hval0 hW hcnd _
  have hval : ∀ (j : Nat) t v, Try.f10.params[j]? = some t → args[j]? = some v → Value.okWide Try.prog W .any base t v := hval0
  have hW' := hW
  obtain ⟨p, q, hA0, hV, rfl, hfz, hnd⟩ := hW
  have hA : DataW.TrodAll enc Try.prog W 0 (fun _ => true) true Try.f10.params.toList args.toList ds p := hA0
  rw [Try.params10] at hA hval
  obtain ⟨v0, vs0, d0, ds0, p0, q0, hargs, rfl, rfl, h0, r0⟩ := trodAll_cons hA
  obtain ⟨v1, vs1, d1, ds1, p1, q1, rfl, rfl, rfl, h1, r1⟩ := trodAll_cons r0
  obtain ⟨rfl, rfl, rfl⟩ := trodAll_nil r1
  obtain rfl : args = #[v0, v1] := by cases args; simp_all
  obtain ⟨rfl, rfl⟩ := trodVars_none hV
  have lt0 : ∀ x ∈ p0, x.block < W.heap.size := by obtain ⟨m, hm⟩ := h0; exact DataW.trod_lt m _ _ _ hm
  have lt1 : ∀ x ∈ p1, x.block < W.heap.size := by obtain ⟨m, hm⟩ := h1; exact DataW.trod_lt m _ _ _ hm
  clear hA0 hval0
  have key : Calls Try.prog 10 #[v0, v1] W fun e W' => e = .returned (.bool true) ∧ Below W.heap.size W W' := by
    obtain ⟨n0, rfl, rfl, rfl, wn⟩ := open_int Try.underlying5 (hval 0 5 v0 rfl rfl) h0
    obtain ⟨a1, len1, cap1, e1⟩ := okWide_slice Try.underlying45 (hval 1 45 v1 rfl rfl)
    obtain ⟨css, m, k⟩ := slice_reads Try.underlying45 (s := 2) (by kernel_rfl) (by decide) e1 h1 _ step_cells
    obtain ⟨R, _, e⟩ := flat_recs Sparse.stepCells m
    rw [e] at k
    have hb := bounds_u8 wn
    exact Sparse.law_any n0 v1 _ R W (by omega) (by omega) k
  refine key.mono fun e W' ⟨he, bel⟩ => ?_
  subst he
  exact ⟨_, rfl, _, _, _, [], _, [], hW', trodAll_mk1 (shut_bool Try.underlying4 _), (trodAll_cons_mk (Below.trod laidOut (by kernel_rfl) (of_decide_eq_true (by kernel_rfl)) h0 bel lt0) (trodAll_cons_mk (Below.trod laidOut (by kernel_rfl) (of_decide_eq_true (by kernel_rfl)) h1 bel lt1) trodAll_mk0)), rfl, bel.frame _, fun h => by cases h⟩

theorem over : Rows.fnSparseRow.holds Try.pinned (OpenSpec.ofChange Rows.fnSparseSpec) :=
  OpenClaim.holds_of_wide 10 Try.f10 rfl rfl rfl rfl rfl rfl rfl ⟨rfl, rfl, rfl, rfl, rfl⟩ rfl rfl rfl rfl rfl (by kernel_rfl) Try.func10 (by kernel_rfl)
    (of_decide_eq_true (by kernel_rfl)) (by unfold Func.isWrapper; first | (rw [if_pos (by decide +kernel)]; kernel_rfl) | (rw [if_neg (by decide +kernel)]; exact ⟨rfl, rfl⟩))
    (fun os started H enc _ => lifted os started H enc)

theorem proved : Rows.FnSparseSaid :=
  over
#print axioms proved
end Go.Proofs.Ytjnfhcagfgbmnaa.fnSparse
