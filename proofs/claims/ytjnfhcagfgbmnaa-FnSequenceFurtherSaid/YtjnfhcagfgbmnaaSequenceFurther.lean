/- PROVED: the Go law FnSequenceFurther returns true, and leaves its arguments as they were, at every input that the row speaks of; no further condition. -/
import Derived.Test.YtjnfhcagfgbmnaaRows
import Derived.WalkKit
import Derived.ProofKit
import Derived.OpenShut
import Derived.ShutString
import Derived.ChangeOld
import Derived.Below
import Derived.Test.YtjnfhcagfgbmnaaFLib
import Derived.Test.YtjnfhcagfgbmnaaSeqF
namespace Go.Proofs.Ytjnfhcagfgbmnaa.fnSequenceFurther
open Go.ChangeShapes Go.WideShapes Go.ChangeAt Go.RowKit Go.Trav
open Go.ChangeMaps (open_string shut_string)
set_option linter.unusedVariables false

theorem own : ownKnob Try.prog.godebug = none := by kernel_rfl
theorem laidOut : laidOutB Try.prog = true := by kernel_rfl
theorem pair_cells {H : Type} {enc : TypeId × Value → H} {w : World} {spare : Nat → Bool} {held : Bool} : ∀ n cs x, cs.length = 2 → DataW.trod enc Try.prog w 0 spare held n 57 cs = some x → ∃ a b : Int, cs = [.int .u8 a, .int .u8 b] := by
  intro n cs x hl h
  obtain ⟨xs, m, _, _, _, hxl, hel⟩ := DataW.trod_array Try.underlying57 h
  have e1 : Try.prog.cellsOf 5 = 1 := by kernel_rfl
  match cs, hl with
  | [c0, c1], _ =>
    have h0 := hel 0 (by omega)
    have h1 := hel 1 (by omega)
    rw [e1] at h0 h1
    simp only [Nat.zero_mul, List.drop_zero, Nat.one_mul, List.drop_succ_cons, List.take_succ_cons, List.take_zero] at h0 h1
    rw [List.getElem?_eq_getElem (show 0 < xs.length by omega)] at h0
    rw [List.getElem?_eq_getElem (show 1 < xs.length by omega)] at h1
    obtain ⟨a, ea, _⟩ := int_cell Try.underlying5 rfl h0
    obtain ⟨b, eb, _⟩ := int_cell Try.underlying5 rfl h1
    simp at ea eb
    exact ⟨a, b, by rw [ea, eb]⟩
theorem flat_pairs {css : List (List Value)} (h : ∀ cs ∈ css, cs.length = 2 ∧ ∃ a b : Int, cs = [.int .u8 a, .int .u8 b]) : ∃ zs : List Int, css.flatten = zs.map (Value.int .u8) := by
  induction css with
  | nil => exact ⟨[], rfl⟩
  | cons c r ih =>
    obtain ⟨zs, hz⟩ := ih (fun x hx => h x (by simp [hx]))
    obtain ⟨_, a, b, rfl⟩ := h c (by simp)
    exact ⟨a :: b :: zs, by simp [hz]⟩
theorem flat_ints {css : List (List Value)} (h : ∀ cs ∈ css, cs.length = 1 ∧ ∃ z : Int, cs = [.int .u8 z] ∧ (Lit.int .u8 z).wf = true) : ∃ zs : List Int, css.flatten = zs.map (Value.int .u8) := by
  induction css with
  | nil => exact ⟨[], rfl⟩
  | cons c r ih =>
    obtain ⟨zs, hz⟩ := ih (fun x hx => h x (by simp [hx]))
    obtain ⟨_, a, rfl, _⟩ := h c (by simp)
    exact ⟨a :: zs, by simp [hz]⟩
set_option maxRecDepth 100000 in
theorem lifted (os : Os) (started : os.Started) (H : Type) (enc : TypeId × Value → H) :
    ReturnsInHanded {} Try.checked os 8 .any (Rows.fnSequenceFurtherSpec.pre6 enc Try.prog Try.f8 Rows.fnSequenceFurtherRow.domain false) (Rows.fnSequenceFurtherSpec.post enc Try.prog Try.f8 false true false false) := by
  refine returnsInHanded_of_change (C := Try.checked) own started (by kernel_rfl) Try.func8
    (ChangeSpec.witness6 (enc := enc) (C := Try.checked) false ⟨#[], #[.slice none 0 0, .slice none 0 0, .slice none 0 0], []⟩ 8 (by kernel_rfl) (by kernel_rfl) (by kernel_rfl) (by kernel_rfl)) ?_
  intro W base args ds gs before hval0 hW hcnd _
  have hval : ∀ (j : Nat) t v, Try.f8.params[j]? = some t → args[j]? = some v → Value.okWide Try.prog W .any base t v := hval0
  have hW' := hW
  obtain ⟨p, q, hA0, hV, rfl, hfz, hnd⟩ := hW
  have hA : DataW.TrodAll enc Try.prog W 0 (fun _ => true) true Try.f8.params.toList args.toList ds p := hA0
  rw [Try.params8] at hA hval
  obtain ⟨v0, vs0, d0, ds0, p0, q0, hargs, rfl, rfl, h0, r0⟩ := trodAll_cons hA
  obtain ⟨v1, vs1, d1, ds1, p1, q1, rfl, rfl, rfl, h1, r1⟩ := trodAll_cons r0
  obtain ⟨v2, vs2, d2, ds2, p2, q2, rfl, rfl, rfl, h2, r2⟩ := trodAll_cons r1
  obtain ⟨rfl, rfl, rfl⟩ := trodAll_nil r2
  obtain rfl : args = #[v0, v1, v2] := by cases args; simp_all
  obtain ⟨rfl, rfl⟩ := trodVars_none hV
  have lt0 : ∀ x ∈ p0, x.block < W.heap.size := by obtain ⟨m, hm⟩ := h0; exact DataW.trod_lt m _ _ _ hm
  have lt1 : ∀ x ∈ p1, x.block < W.heap.size := by obtain ⟨m, hm⟩ := h1; exact DataW.trod_lt m _ _ _ hm
  have lt2 : ∀ x ∈ p2, x.block < W.heap.size := by obtain ⟨m, hm⟩ := h2; exact DataW.trod_lt m _ _ _ hm
  clear hA0 hval0
  have key : Calls Try.prog 8 #[v0, v1, v2] W fun e W' => e = .returned (.bool true) ∧ Below W.heap.size W W' := by
    obtain ⟨a0, len0, cap0, e0⟩ := okWide_slice Try.underlying37 (hval 0 37 v0 rfl rfl)
    obtain ⟨a1, len1, cap1, e1⟩ := okWide_slice Try.underlying32 (hval 1 32 v1 rfl rfl)
    obtain ⟨a2, len2, cap2, e2⟩ := okWide_slice Try.underlying32 (hval 2 32 v2 rfl rfl)
    obtain ⟨c0, m0, k0⟩ := slice_reads Try.underlying37 (s := 2) (by kernel_rfl) (by decide) e0 h0 _ pair_cells
    obtain ⟨c1, m1, k1⟩ := slice_reads Try.underlying32 (s := 1) (by kernel_rfl) (by decide) e1 h1 _ (fun n cs x hl h => int_cell Try.underlying5 hl h)
    obtain ⟨c2, m2, k2⟩ := slice_reads Try.underlying32 (s := 1) (by kernel_rfl) (by decide) e2 h2 _ (fun n cs x hl h => int_cell Try.underlying5 hl h)
    obtain ⟨z0, f0⟩ := flat_pairs m0
    obtain ⟨z1, f1⟩ := flat_ints m1
    obtain ⟨z2, f2⟩ := flat_ints m2
    rw [f0] at k0
    rw [f1] at k1
    rw [f2] at k2
    exact SeqF.law v0 v1 v2 _ _ _ z0 z1 z2 W k0 k1 k2
  refine key.mono fun e W' ⟨he, bel⟩ => ?_
  subst he
  exact ⟨_, rfl, _, _, _, [], _, [], hW', trodAll_mk1 (shut_bool Try.underlying4 _), (trodAll_cons_mk (Below.trod laidOut (by kernel_rfl) (of_decide_eq_true (by kernel_rfl)) h0 bel lt0) (trodAll_cons_mk (Below.trod laidOut (by kernel_rfl) (of_decide_eq_true (by kernel_rfl)) h1 bel lt1) (trodAll_cons_mk (Below.trod laidOut (by kernel_rfl) (of_decide_eq_true (by kernel_rfl)) h2 bel lt2) trodAll_mk0))), rfl, bel.frame _, fun h => by cases h⟩

theorem over : Rows.fnSequenceFurtherRow.holds Try.pinned (OpenSpec.ofChange Rows.fnSequenceFurtherSpec) :=
  OpenClaim.holds_of_wide 8 Try.f8 rfl rfl rfl rfl rfl rfl rfl ⟨rfl, rfl, rfl, rfl, rfl⟩ rfl rfl rfl rfl rfl (by kernel_rfl) Try.func8 (by kernel_rfl)
    (of_decide_eq_true (by kernel_rfl)) (by unfold Func.isWrapper; first | (rw [if_pos (by decide +kernel)]; kernel_rfl) | (rw [if_neg (by decide +kernel)]; exact ⟨rfl, rfl⟩))
    (fun os started H enc _ => lifted os started H enc)

theorem proved : Rows.FnSequenceFurtherSaid :=
  over
#print axioms proved
end Go.Proofs.Ytjnfhcagfgbmnaa.fnSequenceFurther
