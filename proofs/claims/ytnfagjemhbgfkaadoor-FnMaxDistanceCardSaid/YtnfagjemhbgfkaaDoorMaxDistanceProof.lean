/- PROVED: the tied card of the Go law FnMaxDistance: it returns true, and leaves its arguments as they were, at every input, the listed package variables reading as the program's text lays them. -/
import Derived.Test.YtnfagjemhbgfkaaDoorRows
import Derived.Test.YtnfagjemhbgfkaaDoorCards
import Derived.Test.YtnfagjemhbgfkaaDoorTie
import Derived.WalkKit
import Derived.ProofKit
import Derived.OpenShut
import Derived.ShutString
import Derived.ChangeOld
import Derived.Below
import Derived.LaidMore
import Derived.LaidOnce
import Derived.Stop.Joined
import Derived.SevenTiedAt
import Derived.Test.YtnfagjemhbgfkaaDoorFLib
import Derived.Test.YtnfagjemhbgfkaaDoorFnf2
import Derived.Test.YtnfagjemhbgfkaaDoorFnf3
namespace Go.Proofs.YtnfagjemhbgfkaaDoor.fnMaxDistance
open Go.ChangeShapes Go.WideShapes Go.ChangeAt Go.RowKit Go.Trav Go.Joins
open Go.ChangeMaps (open_string shut_string)
set_option linter.unusedVariables false

theorem own : ownKnob Tryd.prog.godebug = none := by kernel_rfl
theorem laidOut : laidOutB Tryd.prog = true := by kernel_rfl
theorem laidMet_by_bits {P : Program} {w : World} {l : List (String × DataW Unit)} (fuel M : Nat)
    (h : ((DataW.laidRun P w fuel (l.map (·.1))).bind fun x => if nodupBits M x.2 0 && laidRowsB P w x.2 then some x.1 else none) = some l) : laidMet P l w := by
  cases hx : DataW.laidRun P w fuel (l.map (·.1)) with
  | none => simp [hx] at h
  | some x =>
    obtain ⟨l', ps⟩ := x
    rw [hx] at h
    simp only [Option.bind_some] at h
    split at h
    · rename_i hb
      simp only [Bool.and_eq_true] at hb
      simp only [Option.some.injEq] at h
      subst h
      exact laidMet_of_run fuel hx (decide_eq_true (nodupBits_sound hb.1).1) hb.2
    · cases h
theorem door_met (os : Os) (args : Array Value) : laidMetH Tryd.prog Rows.fnMaxDistanceRow.laid ((World.doorLaid Tryd.prog 400 os).forCall (fun _ _ => 0) ⟨#[], args, []⟩).memory :=
  laidMetH_of_parts3 (fuel := 8) (laidMet_by_bits 8 1000 (by kernel_rfl)) (by kernel_rfl) (by kernel_rfl)
set_option maxRecDepth 100000 in
theorem lifted (os : Os) (started : os.Started) (H : Type) (enc : TypeId × Value → H) :
    ReturnsInHanded {} Tryd.checked os 3 .any (fun w args => (Rows.fnMaxDistanceSpec.pre enc Tryd.prog Tryd.f3 [] false w args ∧ laidMetH Tryd.prog Rows.fnMaxDistanceRow.laid w) ∧ sizedMet enc Tryd.prog Tryd.f3 (OpenSpec.ofChange Rows.fnMaxDistanceSpec) false w args)
      (Rows.fnMaxDistanceSpec.post enc Tryd.prog Tryd.f3 false true false false) := by
  refine Go.Proofs.YtnfagjemhbgfkaaDoor.change_and_shaped (C := Tryd.checked) (X := fun w _ => laidMetH Tryd.prog Rows.fnMaxDistanceRow.laid w) (fun _ _ _ hh h => h.of_heap hh) own started (by kernel_rfl) Tryd.func3
    (ChangeSpec.witness_shaped (enc := enc) (C := Tryd.checked) (os := os) (X := fun w _ => laidMetH Tryd.prog Rows.fnMaxDistanceRow.laid w) false (World.doorLaid Tryd.prog 400 os) #[.int .u8 0, .bool false] 8 rfl (World.shaped_of_RefB (by kernel_rfl) (by kernel_rfl)) (by kernel_rfl) (by kernel_rfl) (by kernel_rfl) (door_met os _)) ?_
  intro W base args ds gs before hval0 hW hsh hL
  have hval : ∀ (j : Nat) t v, Tryd.f3.params[j]? = some t → args[j]? = some v → Value.okWide Tryd.prog W .any base t v := hval0
  have hW' := hW
  obtain ⟨p, q, hA0, hV, rfl, hfz, hnd⟩ := hW
  have hA : DataW.TrodAll enc Tryd.prog W 0 (fun _ => true) true Tryd.f3.params.toList args.toList ds p := hA0
  rw [Tryd.params3] at hA hval
  obtain ⟨v0, vs0, d0, ds0, p0, q0, hargs, rfl, rfl, h0, r0⟩ := trodAll_cons hA
  obtain ⟨v1, vs1, d1, ds1, p1, q1, rfl, rfl, rfl, h1, r1⟩ := trodAll_cons r0
  obtain ⟨rfl, rfl, rfl⟩ := trodAll_nil r1
  obtain rfl : args = #[v0, v1] := by cases args; simp_all
  obtain ⟨rfl, rfl⟩ := trodVars_none hV
  have lt0 : ∀ x ∈ p0, x.block < W.heap.size := by obtain ⟨m, hm⟩ := h0; exact DataW.trod_lt m _ _ _ hm
  have lt1 : ∀ x ∈ p1, x.block < W.heap.size := by obtain ⟨m, hm⟩ := h1; exact DataW.trod_lt m _ _ _ hm
  clear hA0 hval0
  have key : Calls Tryd.prog 3 #[v0, v1] W fun e W' => e = .returned (.bool true) ∧ Below W.heap.size W W' := by
    obtain ⟨n0, rfl, rfl, rfl, wn0⟩ := open_int Tryd.underlying5 (hval 0 5 v0 rfl rfl) h0
    obtain ⟨b1, rfl, rfl, rfl⟩ := open_bool Tryd.underlying4 (hval 1 4 v1 rfl rfl) h1
    obtain ⟨K, hK⟩ := Sha.k_shaped hsh
    obtain ⟨m, rfl⟩ : ∃ m : Nat, n0 = m := ⟨n0.toNat, by have := bounds_u8 wn0; omega⟩
    exact Hsh.law_any K m b1 W (by have := bounds_u8 wn0; omega) hK
  refine key.mono fun e W' ⟨he, bel⟩ => ?_
  subst he
  exact ⟨_, rfl, _, _, _, [], _, [], hW', trodAll_mk1 (shut_bool Tryd.underlying4 _), (trodAll_cons_mk (Below.trod laidOut (by kernel_rfl) (of_decide_eq_true (by kernel_rfl)) h0 bel lt0) (trodAll_cons_mk (Below.trod laidOut (by kernel_rfl) (of_decide_eq_true (by kernel_rfl)) h1 bel lt1) trodAll_mk0)), rfl, bel.frame _, fun h => by cases h⟩

theorem over : Rows.fnMaxDistanceRow.holds Tryd.pinned (OpenSpec.ofChange Rows.fnMaxDistanceSpec) :=
  OpenClaim.holds_of_wide 3 Tryd.f3 rfl rfl rfl rfl rfl rfl rfl ⟨rfl, rfl, rfl, rfl, rfl⟩ rfl rfl rfl rfl rfl (by kernel_rfl) Tryd.func3 (by kernel_rfl)
    (of_decide_eq_true (by kernel_rfl)) (by unfold Func.isWrapper; first | (rw [if_pos (by decide +kernel)]; kernel_rfl) | (rw [if_neg (by decide +kernel)]; exact ⟨rfl, rfl⟩))
    (fun os started H enc _ => lifted os started H enc)

theorem plain (f : FuncId) (fn : Func) (hf : Tryd.pinned.checked.prog.funcNamed "pub-traverser/laws.FnMaxDistance" = some f) (hfn : Tryd.pinned.checked.prog.funcs[f]? = some fn) :
    false = Tryd.pinned.checked.prog.looks [] ∧ ∀ (j : Nat) t, fn.params[j]? = some t → Tryd.pinned.checked.prog.wantsStandIn t = false := by
  obtain rfl : f = 3 := Option.some.inj ((show Tryd.prog.funcNamed "pub-traverser/laws.FnMaxDistance" = some 3 by kernel_rfl).symm.trans hf) |>.symm
  obtain rfl : fn = Tryd.f3 := (Option.some.inj (Tryd.func3.symm.trans hfn)).symm
  refine ⟨by kernel_rfl, fun j t ht => ?_⟩
  rw [Tryd.params3] at ht
  have hm : t ∈ [5, 4] := by simpa using Array.mem_of_getElem? ht
  have hall : ([5, 4].all fun u => !Tryd.prog.wantsStandIn u) = true := by kernel_rfl
  exact (show Tryd.prog.wantsStandIn t = false by simpa using List.all_eq_true.1 hall t hm)
theorem proved : Rows.FnMaxDistanceCardSaid :=
  Claim7.holds_tied_plain_at .later [] _ _ _ _ over (fun _ h => by cases h) (by kernel_rfl) (fun _ h => by cases h) fnMaxDistance_row_tie rfl ⟨rfl, rfl⟩ (by kernel_rfl) rfl plain (by kernel_rfl)
#print axioms proved
end Go.Proofs.YtnfagjemhbgfkaaDoor.fnMaxDistance
