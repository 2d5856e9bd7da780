/- A law of regions that draw their order: loads may be taken first, where the condition on the world holds until a call comes that waits for them. -/
import Derived.OrdersHeld
import Derived.RegionTactic
namespace Go.Proofs.YtnpchkohfomagaaDoor.Rgw
open Go
set_option linter.unusedVariables false
section
variable {P : Program} {ops : Array Oper} {Q : Exit → Act → World → Prop} {md : Region.Mode} {S : World → Prop} {c : Nat}
/-- As long as the call c has not come up, S holds behind each operation. -/
def wpAnyL (P : Program) (md : Region.Mode) (ops : Array Oper) (Q : Exit → Act → World → Prop) (S : World → Prop) (c : Nat) : Nat → Array Bool → Act → World → Prop
  | 0, listed, a, w => Region.ready md ops listed = [] ∧ Q .normal a w
  | fuel + 1, listed, a, w => (Region.ready md ops listed = [] → Q .normal a w) ∧
    ∀ i ∈ Region.ready md ops listed, wpOp P ops Q i (fun a' w' => ((listed.setIfInBounds i true).getD c false = false → S w') ∧ wpAnyL P md ops Q S c fuel (listed.setIfInBounds i true) a' w') a w
theorem wpAny_of_L : ∀ (fuel : Nat) (listed : Array Bool) (a : Act) (w : World), wpAnyL P md ops Q S c fuel listed a w → wpAny P md ops Q fuel listed a w
  | 0, _, _, _, h => h
  | fuel + 1, _, _, _, h => ⟨h.1, fun i hi => wpOp_mono (fun a' w' h' => wpAny_of_L fuel _ a' w' h'.2) (h.2 i hi)⟩
theorem L_of_wpAny : ∀ (fuel : Nat) (listed : Array Bool) (a : Act) (w : World), listed.getD c false = true → wpAny P md ops Q fuel listed a w → wpAnyL P md ops Q S c fuel listed a w
  | 0, _, _, _, _, h => h
  | fuel + 1, _, _, _, hc, h => ⟨h.1, fun i hi => wpOp_mono (fun a' w' h' => ⟨fun e => (by rw [getD_set_true hc] at e; cases e), L_of_wpAny fuel _ a' w' (getD_set_true hc) h'⟩) (h.2 i hi)⟩
theorem unlisted_on {i j : Nat} {listed : Array Bool} {oj : Oper} (hi : listed.getD i true = false) (hall : ∀ e ∈ oj.after, Region.binds md e = true → listed.getD e.on false = true) : ∀ e ∈ oj.after, Region.binds md e = true → e.on ≠ i := fun e he hb heq => by
  have h1 := hall e he hb
  rw [heq] at h1
  rcases Nat.lt_or_ge i listed.size with h' | h'
  · simp [h'] at hi h1; rw [hi] at h1; cases h1
  · simp [Array.getElem?_eq_none h'] at h1
/-- A load for which the call waits may be taken first, if it yields its value wherever S holds. -/
theorem wpAnyL_first {i : Nat} {oi : Oper} {v : Value} (hi : ops[i]? = some oi) (hsel : ∀ (j : Nat) (o : Oper) cs b, ops[j]? = some o → o.op ≠ .select cs b)
    (hQ : ∀ c a w, Q (.panic c) (a.put oi.dst v) w → Q (.panic c) a w) (hic : i ≠ c) {oc : Oper} (hoc : ops[c]? = some oc) (hwait : ∃ e ∈ oc.after, Region.binds md e = true ∧ e.on = i) :
    ∀ (fuel : Nat) (listed : Array Bool) (a : Act) (w : World),
      (∀ j oj, ops[j]? = some oj → j ≠ i → listed.getD j true = false → (∀ e ∈ oj.after, Region.binds md e = true → e.on ≠ i) → oi.apart ops oj = true) →
      i ∈ Region.ready md ops listed → YieldsIf P ops S oi v a → S w → listed.getD c false = false →
      wpAnyL P md ops Q S c fuel (listed.setIfInBounds i true) (a.put oi.dst v) w → wpAnyL P md ops Q S c (fuel + 1) listed a w := by
  intro fuel
  induction fuel with
  | zero =>
    intro listed a w _ hr hy hS _ H
    refine ⟨fun h => (by rw [h] at hr; cases hr), fun j hj => ?_⟩
    by_cases hji : j = i
    · subst hji; exact hy.wpOp hi hS ⟨fun _ => hS, H⟩
    · have := ready_mono hj hji
      rw [H.1] at this
      cases this
  | succ fuel ih =>
    intro listed a w hfree hr hy hS hcl H
    refine ⟨fun h => (by rw [h] at hr; cases hr), fun j hj => ?_⟩
    by_cases hji : j = i
    · subst hji; exact hy.wpOp hi hS ⟨fun _ => hS, H⟩
    · have h1 := H.2 j (ready_mono hj hji)
      obtain ⟨hjun, oj, hoj, hall⟩ := mem_ready.1 hj
      have hnot := unlisted_on (i := i) (j := j) (mem_ready.1 hr).1 hall
      have hjc : j ≠ c := fun e => by
        subst e
        obtain rfl : oj = oc := Option.some.inj (hoj.symm.trans hoc)
        obtain ⟨e, he, hb, h⟩ := hwait
        exact hnot e he hb h
      have h2 := wpOp_putIf hoj (hfree j oj hoj hji hjun hnot) (fun cs b => hsel i oi cs b hi) (fun cs b => hsel j oj cs b hoj) hQ hy h1
      have hfree' : ∀ k ok, ops[k]? = some ok → k ≠ i → (listed.setIfInBounds j true).getD k true = false → (∀ e ∈ ok.after, Region.binds md e = true → e.on ≠ i) → oi.apart ops ok = true := fun k ok hk hki hun hno => by
        refine hfree k ok hk hki ?_ hno
        by_cases hjk : j = k
        · subst hjk; exact hjun
        · rw [getD_set_ne true hjk] at hun; exact hun
      have g1 : (listed.setIfInBounds j true).getD c false = false := by rw [getD_set_ne false hjc]; exact hcl
      have g2 : ((listed.setIfInBounds i true).setIfInBounds j true).getD c false = false := by rw [getD_set_ne false hjc, getD_set_ne false hic]; exact hcl
      refine wpOp_mono (fun a' w' h3 => ⟨fun _ => h3.2.1 g2, ih (listed.setIfInBounds j true) a' w' hfree' (ready_mono hr (Ne.symm hji)) h3.1 (h3.2.1 g2) g1 ?_⟩) h2
      rw [Array.setIfInBounds_comm _ _ hji]
      exact h3.2.2
/-- What yields in whatever world may be taken first, whether the call waits for it or not. -/
theorem wpAnyL_first0 {i : Nat} {oi : Oper} {v : Value} (hi : ops[i]? = some oi) (hsel : ∀ (j : Nat) (o : Oper) cs b, ops[j]? = some o → o.op ≠ .select cs b)
    (hQ : ∀ c a w, Q (.panic c) (a.put oi.dst v) w → Q (.panic c) a w) (hic : i ≠ c) :
    ∀ (fuel : Nat) (listed : Array Bool) (a : Act) (w : World),
      (∀ j oj, ops[j]? = some oj → j ≠ i → listed.getD j true = false → (∀ e ∈ oj.after, Region.binds md e = true → e.on ≠ i) → oi.apart ops oj = true) →
      i ∈ Region.ready md ops listed → YieldsIf P ops (fun _ => True) oi v a → (listed.getD c false = false → S w) →
      wpAnyL P md ops Q S c fuel (listed.setIfInBounds i true) (a.put oi.dst v) w → wpAnyL P md ops Q S c (fuel + 1) listed a w := by
  intro fuel
  induction fuel with
  | zero =>
    intro listed a w _ hr hy hS H
    refine ⟨fun h => (by rw [h] at hr; cases hr), fun j hj => ?_⟩
    by_cases hji : j = i
    · subst hji; exact hy.wpOp hi trivial ⟨fun e => hS (by rw [getD_set_ne false hic] at e; exact e), H⟩
    · have := ready_mono hj hji
      rw [H.1] at this
      cases this
  | succ fuel ih =>
    intro listed a w hfree hr hy hS H
    refine ⟨fun h => (by rw [h] at hr; cases hr), fun j hj => ?_⟩
    by_cases hji : j = i
    · subst hji; exact hy.wpOp hi trivial ⟨fun e => hS (by rw [getD_set_ne false hic] at e; exact e), H⟩
    · have h1 := H.2 j (ready_mono hj hji)
      obtain ⟨hjun, oj, hoj, hall⟩ := mem_ready.1 hj
      have hnot := unlisted_on (i := i) (j := j) (mem_ready.1 hr).1 hall
      have h2 := wpOp_putIf hoj (hfree j oj hoj hji hjun hnot) (fun cs b => hsel i oi cs b hi) (fun cs b => hsel j oj cs b hoj) hQ hy h1
      have hfree' : ∀ k ok, ops[k]? = some ok → k ≠ i → (listed.setIfInBounds j true).getD k true = false → (∀ e ∈ ok.after, Region.binds md e = true → e.on ≠ i) → oi.apart ops ok = true := fun k ok hk hki hun hno => by
        refine hfree k ok hk hki ?_ hno
        by_cases hjk : j = k
        · subst hjk; exact hjun
        · rw [getD_set_ne true hjk] at hun; exact hun
      have g : ∀ x : Array Bool, (x.setIfInBounds i true).getD c false = x.getD c false := fun x => getD_set_ne false hic
      have hS' : ∀ w' : World, (((listed.setIfInBounds i true).setIfInBounds j true).getD c false = false → S w') → ((listed.setIfInBounds j true).getD c false = false → S w') := fun w' h e => h (by rw [Array.setIfInBounds_comm _ _ (Ne.symm hji), g]; exact e)
      refine wpOp_mono (fun a' w' h3 => ⟨hS' w' h3.2.1, ih (listed.setIfInBounds j true) a' w' hfree' (ready_mono hr (Ne.symm hji)) h3.1 (hS' w' h3.2.1) ?_⟩) h2
      rw [Array.setIfInBounds_comm _ _ hji]
      exact h3.2.2
/-- The moves of a walk: a load for which the call waits .. -/
theorem wpAnyL_take {i : Nat} {oi oc : Oper} {v : Value} {fuel : Nat} {listed : Array Bool} {a : Act} {w : World} (hi : ops[i]? = some oi) (hoc : ops[c]? = some oc) (hwait : (oc.after.any fun e => Region.binds md e && e.on == i) = true) (hic : (i == c) = false)
    (hs : Region.noSelect ops = true) (hf : Region.free md ops listed i = true) (hr : (Region.ready md ops listed).contains i = true) (hcl : listed.getD c false = false)
    (hQ : ∀ c a w, Q (.panic c) (a.put oi.dst v) w → Q (.panic c) a w) (hS : S w) (hy : YieldsIf P ops S oi v a)
    (h : wpAnyL P md ops Q S c fuel (listed.setIfInBounds i true) (a.put oi.dst v) w) : wpAnyL P md ops Q S c (fuel + 1) listed a w :=
  wpAnyL_first hi (Region.noSelect_spec hs) hQ (by simpa using hic) hoc (by
    rw [Array.any_eq_true'] at hwait
    obtain ⟨e, he, h⟩ := hwait
    simp only [Bool.and_eq_true, beq_iff_eq] at h
    exact ⟨e, he, h.1, h.2⟩) fuel listed a w (Region.free_spec hi hf) (by simpa using hr) hy hS hcl h
/-- .. what yields in whatever world .. -/
theorem wpAnyL_take0 {i : Nat} {oi : Oper} {v : Value} {fuel : Nat} {listed : Array Bool} {a : Act} {w : World} (hi : ops[i]? = some oi) (hic : (i == c) = false)
    (hs : Region.noSelect ops = true) (hf : Region.free md ops listed i = true) (hr : (Region.ready md ops listed).contains i = true)
    (hQ : ∀ c a w, Q (.panic c) (a.put oi.dst v) w → Q (.panic c) a w) (hS : S w) (hy : Yields P ops oi v a)
    (h : wpAnyL P md ops Q S c fuel (listed.setIfInBounds i true) (a.put oi.dst v) w) : wpAnyL P md ops Q S c (fuel + 1) listed a w :=
  wpAnyL_first0 hi (Region.noSelect_spec hs) hQ (by simpa using hic) fuel listed a w (Region.free_spec hi hf) (by simpa using hr) hy.yieldsIf (fun _ => hS) h
/-- .. the call, alone to come up: behind it S is asked no more. -/
theorem wpAnyL_call {oc : Oper} {fuel : Nat} {listed : Array Bool} {a : Act} {w : World} (hoc : ops[c]? = some oc) (hr : Region.ready md ops listed = [c]) (hl : (listed.setIfInBounds c true).getD c false = true)
    (h : ∀ K : Act → World → Prop, (∀ a w, wpAny P md ops Q fuel (listed.setIfInBounds c true) a w → K a w) → if Region.wanted oc (yielded ops a.tmps) = true then Oper.wp P oc a w K Q else K (a.put oc.dst undef) w) : wpAnyL P md ops Q S c (fuel + 1) listed a w := by
  refine ⟨fun h0 => (by rw [hr] at h0; cases h0), fun i hi => ?_⟩
  rw [hr] at hi
  obtain rfl : i = c := by simpa using hi
  exact wpOp_step hoc fun K hK => h K fun a' w' h' => hK a' w' ⟨fun e => (by rw [hl] at e; cases e), L_of_wpAny _ _ _ _ hl h'⟩
/-- .. one operation alone. -/
theorem wpAny_one {i : Nat} {o : Oper} {fuel : Nat} {listed : Array Bool} {a : Act} {w : World} (ho : ops[i]? = some o) (hr : Region.ready md ops listed = [i])
    (h : ∀ K : Act → World → Prop, (∀ a w, wpAny P md ops Q fuel (listed.setIfInBounds i true) a w → K a w) → if Region.wanted o (yielded ops a.tmps) = true then Oper.wp P o a w K Q else K (a.put o.dst undef) w) : wpAny P md ops Q (fuel + 1) listed a w := by
  refine ⟨fun h0 => (by rw [hr] at h0; cases h0), fun j hj => ?_⟩
  rw [hr] at hj
  obtain rfl : j = i := by simpa using hj
  exact wpOp_step ho fun K hK => h K hK
theorem wp_region_L {id : Nat} {a : Act} {w : World} (S : World → Prop) (c : Nat) (hm : P.follows .mixedOrders = true) (h : wpAnyL P .any ops Q S c ops.size (Array.replicate ops.size false) a w.drew) : (Code.region id ops true).wp P Q a w :=
  wp_region_any hm (wpAny_of_L _ _ _ _ h)
end
end Go.Proofs.YtnpchkohfomagaaDoor.Rgw
