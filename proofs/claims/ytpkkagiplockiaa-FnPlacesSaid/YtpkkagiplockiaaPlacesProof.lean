/- PROVED: the Go law FnPlaces returns true, and leaves its arguments as they were, at every input that the row speaks of; no further condition. -/
import Derived.Test.YtpkkagiplockiaaRows
import Derived.WalkKit
import Derived.ProofKit
import Derived.OpenShut
import Derived.ShutString
import Derived.ChangeOld
import Derived.Below
import Derived.Test.YtpkkagiplockiaaFLib
import Derived.Test.YtpkkagiplockiaaPlcLaw
namespace Go.Proofs.Ytpkkagiplockiaa.fnPlaces
open Go.ChangeShapes Go.WideShapes Go.ChangeAt Go.RowKit Go.Trav Go.Joins
open Go.ChangeMaps (open_string shut_string)
set_option linter.unusedVariables false

theorem own : ownKnob Try.prog.godebug = none := by kernel_rfl
theorem laidOut : laidOutB Try.prog = true := by kernel_rfl
abbrev I32 : Type := {z : Int // -2147483648 ≤ z ∧ z ≤ 2147483647}
def runeC (z : I32) : List Value := [.int .i32 z.1]
theorem rune_cells {H : Type} {enc : TypeId × Value → H} {w : World} {spare : Nat → Bool} {held : Bool} : ∀ n cs x, cs.length = 1 → DataW.trod enc Try.prog w 0 spare held n 21 cs = some x → ∃ y : I32, cs = runeC y := by
  intro n cs x hl h
  obtain ⟨z, rfl, wz⟩ := int_cell Try.underlying21 hl h
  exact ⟨⟨z, bounds_i32 wz⟩, rfl⟩
theorem rune_map (l : List I32) : l.flatMap runeC = (l.map (·.1)).map (Value.int .i32) := by
  induction l with
  | nil => rfl
  | cons a r ih => simp only [List.flatMap_cons, ih, runeC, List.map_cons, List.singleton_append]
theorem rune_bnd (l : List I32) : ∀ x ∈ l.map (·.1), -2147483648 ≤ x ∧ x ≤ 2147483647 := by
  intro x hx
  obtain ⟨y, _, rfl⟩ := List.mem_map.mp hx
  exact y.2
set_option maxRecDepth 100000 in
theorem lifted (os : Os) (started : os.Started) (H : Type) (enc : TypeId × Value → H) :
    ReturnsInHanded {} Try.checked os 4 .any (Rows.fnPlacesSpec.pre6 enc Try.prog Try.f4 Rows.fnPlacesRow.domain false) (Rows.fnPlacesSpec.post enc Try.prog Try.f4 false true false false) := by
  refine returnsInHanded_of_change (C := Try.checked) own started (by kernel_rfl) Try.func4
    (ChangeSpec.witness6 (enc := enc) (C := Try.checked) false ⟨#[], #[.slice none 0 0, .slice none 0 0, .int .u8 0, .bool false], []⟩ 8 (by kernel_rfl) (by kernel_rfl) (by kernel_rfl) (by kernel_rfl)) ?_
  intro W base args ds gs before hval0 hW hcnd _
  have hval : ∀ (j : Nat) t v, Try.f4.params[j]? = some t → args[j]? = some v → Value.okWide Try.prog W .any base t v := hval0
  have hW' := hW
  obtain ⟨p, q, hA0, hV, rfl, hfz, hnd⟩ := hW
  have hA : DataW.TrodAll enc Try.prog W 0 (fun _ => true) true Try.f4.params.toList args.toList ds p := hA0
  rw [Try.params4] at hA hval
  obtain ⟨v0, vs0, d0, ds0, p0, q0, hargs, rfl, rfl, h0, r0⟩ := trodAll_cons hA
  obtain ⟨v1, vs1, d1, ds1, p1, q1, rfl, rfl, rfl, h1, r1⟩ := trodAll_cons r0
  obtain ⟨v2, vs2, d2, ds2, p2, q2, rfl, rfl, rfl, h2, r2⟩ := trodAll_cons r1
  obtain ⟨v3, vs3, d3, ds3, p3, q3, rfl, rfl, rfl, h3, r3⟩ := trodAll_cons r2
  obtain ⟨rfl, rfl, rfl⟩ := trodAll_nil r3
  obtain rfl : args = #[v0, v1, v2, v3] := by cases args; simp_all
  obtain ⟨rfl, rfl⟩ := trodVars_none hV
  have lt0 : ∀ x ∈ p0, x.block < W.heap.size := by obtain ⟨m, hm⟩ := h0; exact DataW.trod_lt m _ _ _ hm
  have lt1 : ∀ x ∈ p1, x.block < W.heap.size := by obtain ⟨m, hm⟩ := h1; exact DataW.trod_lt m _ _ _ hm
  have lt2 : ∀ x ∈ p2, x.block < W.heap.size := by obtain ⟨m, hm⟩ := h2; exact DataW.trod_lt m _ _ _ hm
  have lt3 : ∀ x ∈ p3, x.block < W.heap.size := by obtain ⟨m, hm⟩ := h3; exact DataW.trod_lt m _ _ _ hm
  clear hA0 hval0
  have key : Calls Try.prog 4 #[v0, v1, v2, v3] W fun e W' => e = .returned (.bool true) ∧ Below W.heap.size W W' := by
    obtain ⟨a0, len0, cap0, e0⟩ := okWide_slice Try.underlying31 (hval 0 31 v0 rfl rfl)
    obtain ⟨css0, m0, k0⟩ := slice_reads Try.underlying31 (s := 1) (by kernel_rfl) (by decide) e0 h0 _ rune_cells
    obtain ⟨R0, hR0, f0⟩ := flat_recs runeC m0
    rw [f0, rune_map] at k0
    obtain ⟨a1, len1, cap1, e1⟩ := okWide_slice Try.underlying31 (hval 1 31 v1 rfl rfl)
    obtain ⟨css1, m1, k1⟩ := slice_reads Try.underlying31 (s := 1) (by kernel_rfl) (by decide) e1 h1 _ rune_cells
    obtain ⟨R1, hR1, f1⟩ := flat_recs runeC m1
    rw [f1, rune_map] at k1
    obtain ⟨n0, rfl, rfl, rfl, wn⟩ := open_int Try.underlying5 (hval 2 5 v2 rfl rfl) h2
    have hb := bounds_u8 wn
    obtain ⟨n0, rfl⟩ := Int.eq_ofNat_of_zero_le hb.1
    obtain ⟨b0, rfl, rfl, rfl⟩ := open_bool Try.underlying4 (hval 3 4 v3 rfl rfl) h3
    exact Nfa.law_places v0 v1 _ _ n0 b0 _ _ W k0 k1 (rune_bnd R0) (rune_bnd R1) (by omega)
  refine key.mono fun e W' ⟨he, bel⟩ => ?_
  subst he
  exact ⟨_, rfl, _, _, _, [], _, [], hW', trodAll_mk1 (shut_bool Try.underlying4 _), (trodAll_cons_mk (Below.trod laidOut (by kernel_rfl) (of_decide_eq_true (by kernel_rfl)) h0 bel lt0) (trodAll_cons_mk (Below.trod laidOut (by kernel_rfl) (of_decide_eq_true (by kernel_rfl)) h1 bel lt1) (trodAll_cons_mk (Below.trod laidOut (by kernel_rfl) (of_decide_eq_true (by kernel_rfl)) h2 bel lt2) (trodAll_cons_mk (Below.trod laidOut (by kernel_rfl) (of_decide_eq_true (by kernel_rfl)) h3 bel lt3) trodAll_mk0)))), rfl, bel.frame _, fun h => by cases h⟩

theorem over : Rows.fnPlacesRow.holds Try.pinned (OpenSpec.ofChange Rows.fnPlacesSpec) :=
  OpenClaim.holds_of_wide 4 Try.f4 rfl rfl rfl rfl rfl rfl rfl ⟨rfl, rfl, rfl, rfl, rfl⟩ rfl rfl rfl rfl rfl (by kernel_rfl) Try.func4 (by kernel_rfl)
    (of_decide_eq_true (by kernel_rfl)) (by unfold Func.isWrapper; first | (rw [if_pos (by decide +kernel)]; kernel_rfl) | (rw [if_neg (by decide +kernel)]; exact ⟨rfl, rfl⟩))
    (fun os started H enc _ => lifted os started H enc)

theorem proved : Rows.FnPlacesSaid :=
  over
#print axioms proved
end Go.Proofs.Ytpkkagiplockiaa.fnPlaces
