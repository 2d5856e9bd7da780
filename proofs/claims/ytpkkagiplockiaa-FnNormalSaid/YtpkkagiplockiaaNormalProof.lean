/- PROVED: the Go law FnNormal returns true, and leaves its arguments as they were, at every input that the row speaks of; no further condition. -/
import Derived.Test.YtpkkagiplockiaaRows
import Derived.WalkKit
import Derived.ProofKit
import Derived.OpenShut
import Derived.ShutString
import Derived.ChangeOld
import Derived.Below
import Derived.Test.YtpkkagiplockiaaFLib
import Derived.Test.YtpkkagiplockiaaNorLaw
namespace Go.Proofs.Ytpkkagiplockiaa.fnNormal
open Go.ChangeShapes Go.WideShapes Go.ChangeAt Go.RowKit Go.Trav Go.Joins
open Go.ChangeMaps (open_string shut_string)
set_option linter.unusedVariables false

theorem own : ownKnob Try.prog.godebug = none := by kernel_rfl
theorem laidOut : laidOutB Try.prog = true := by kernel_rfl
theorem place_cells {H : Type} {enc : TypeId × Value → H} {w : World} {spare : Nat → Bool} {held : Bool} : ∀ n cs x, cs.length = 3 → DataW.trod enc Try.prog w 0 spare held n 25 cs = some x → ∃ y : Go.Nor.Plc, cs = Nfa.pC y := by
  intro n cs x hl h
  have hf := field_cells Try.underlying25 (by kernel_rfl) h
  match cs, hl with
  | [c0, c1, c2], _ =>
    obtain ⟨_, _, g0⟩ := hf 0 _ rfl
    obtain ⟨_, _, g1⟩ := hf 1 _ rfl
    obtain ⟨_, _, g2⟩ := hf 2 _ rfl
    obtain ⟨a, rfl, wa⟩ := int_one Try.underlying23 g0
    obtain ⟨b, rfl, wb⟩ := int_one Try.underlying5 g1
    obtain ⟨c, rfl⟩ := bool_one Try.underlying4 g2
    have ha := bounds_u32 wa
    have hb := bounds_u8 wb
    obtain ⟨a, rfl⟩ := Int.eq_ofNat_of_zero_le ha.1
    obtain ⟨b, rfl⟩ := Int.eq_ofNat_of_zero_le hb.1
    exact ⟨⟨a, b, c⟩, rfl⟩
set_option maxRecDepth 100000 in
theorem lifted (os : Os) (started : os.Started) (H : Type) (enc : TypeId × Value → H) :
    ReturnsInHanded {} Try.checked os 3 .any (Rows.fnNormalSpec.pre6 enc Try.prog Try.f3 Rows.fnNormalRow.domain false) (Rows.fnNormalSpec.post enc Try.prog Try.f3 false true false false) := by
  refine returnsInHanded_of_change (C := Try.checked) own started (by kernel_rfl) Try.func3
    (ChangeSpec.witness6 (enc := enc) (C := Try.checked) false ⟨#[], #[.slice none 0 0], []⟩ 8 (by kernel_rfl) (by kernel_rfl) (by kernel_rfl) (by kernel_rfl)) ?_
  intro W base args ds gs before hval0 hW hcnd _
  have hval : ∀ (j : Nat) t v, Try.f3.params[j]? = some t → args[j]? = some v → Value.okWide Try.prog W .any base t v := hval0
  have hW' := hW
  obtain ⟨p, q, hA0, hV, rfl, hfz, hnd⟩ := hW
  have hA : DataW.TrodAll enc Try.prog W 0 (fun _ => true) true Try.f3.params.toList args.toList ds p := hA0
  rw [Try.params3] at hA hval
  obtain ⟨v0, vs0, d0, ds0, p0, q0, hargs, rfl, rfl, h0, r0⟩ := trodAll_cons hA
  obtain ⟨rfl, rfl, rfl⟩ := trodAll_nil r0
  obtain rfl : args = #[v0] := by cases args; simp_all
  obtain ⟨rfl, rfl⟩ := trodVars_none hV
  have lt0 : ∀ x ∈ p0, x.block < W.heap.size := by obtain ⟨m, hm⟩ := h0; exact DataW.trod_lt m _ _ _ hm
  clear hA0 hval0
  have key : Calls Try.prog 3 #[v0] W fun e W' => e = .returned (.bool true) ∧ Below W.heap.size W W' := by
    obtain ⟨a0, len0, cap0, e0⟩ := okWide_slice Try.underlying22 (hval 0 22 v0 rfl rfl)
    obtain ⟨css, m, k⟩ := slice_reads Try.underlying22 (s := 3) (by kernel_rfl) (by decide) e0 h0 _ place_cells
    obtain ⟨R, hR, e⟩ := flat_recs Nfa.pC m
    rw [e] at k
    exact Nfa.law_normal v0 _ R W k
  refine key.mono fun e W' ⟨he, bel⟩ => ?_
  subst he
  exact ⟨_, rfl, _, _, _, [], _, [], hW', trodAll_mk1 (shut_bool Try.underlying4 _), (trodAll_cons_mk (Below.trod laidOut (by kernel_rfl) (of_decide_eq_true (by kernel_rfl)) h0 bel lt0) trodAll_mk0), rfl, bel.frame _, fun h => by cases h⟩

theorem over : Rows.fnNormalRow.holds Try.pinned (OpenSpec.ofChange Rows.fnNormalSpec) :=
  OpenClaim.holds_of_wide 3 Try.f3 rfl rfl rfl rfl rfl rfl rfl ⟨rfl, rfl, rfl, rfl, rfl⟩ rfl rfl rfl rfl rfl (by kernel_rfl) Try.func3 (by kernel_rfl)
    (of_decide_eq_true (by kernel_rfl)) (by unfold Func.isWrapper; first | (rw [if_pos (by decide +kernel)]; kernel_rfl) | (rw [if_neg (by decide +kernel)]; exact ⟨rfl, rfl⟩))
    (fun os started H enc _ => lifted os started H enc)

theorem proved : Rows.FnNormalSaid :=
  over
#print axioms proved
end Go.Proofs.Ytpkkagiplockiaa.fnNormal
