/- The table sha256._K holds some numbers, whatever they are: drawn from the shape of the world in which a call is made; and the wrap that hands this shape on. -/
import Derived.Test.YtnfagjemhbgfkaaDoorFLib
import Derived.Test.YtnfagjemhbgfkaaDoorRows
import Derived.WalkKit
import Derived.ProofKit
import Derived.Handed
import Derived.SizedLaws
namespace Go.Proofs.YtnfagjemhbgfkaaDoor
variable {H : Type} {enc : TypeId × Value → H}
/-- The kit's two wraps in one: a premise more on the world, and the world's shape. -/
theorem change_and_shaped {a : Assume} {C : Checked} {os : Os} {f : FuncId} {fn : Func} {s : ChangeSpec} {conds : List PathCond} {apart fresh handsOn again : Bool} {X : World → Array Value → Prop}
    (hX : ∀ (w w' : World) (args : Array Value), w.heap = w'.heap → X w args → X w' args)
    (own : ownKnob C.prog.godebug = none) (started : os.Started) (noInit : C.prog.inits.idxOf? f = none) (hfn : C.prog.funcs[f]? = some fn)
    (witness : ∃ (w : World) (tape : Tape) (i : Input), w.os = os ∧ (w.forCall tape i).Shaped C.prog ∧ i.vars = [] ∧ Input.okWide C.prog (w.forCall tape i) .any w.heap.size f i ∧
      ((s.pre enc C.prog fn conds apart (w.forCall tape i).memory i.args ∧ X (w.forCall tape i).memory i.args) ∧ sizedMet enc C.prog fn (OpenSpec.ofChange s) apart (w.forCall tape i).memory i.args) ∧ a.holds C.prog (lone (Frame.enter C.prog f i.args .normal) [] (w.forCall tape i)))
    (contract : ∀ (W : World) (base : Nat) (args : Array Value) (ds gs : List (DataW H)) (before : List MemPlace),
      (∀ (j : Nat) t v, fn.params[j]? = some t → args[j]? = some v → Value.okWide C.prog W .any base t v) →
      DataW.Whole enc C.prog fn.params.toList s.vars apart W args.toList ds gs before →
      W.ShapedOpen C.prog → X W args →
      Calls C.prog f args W fun e W' => ∃ v, e = .returned v ∧ s.post enc C.prog fn apart fresh handsOn again W args v W') :
    ReturnsInHanded a C os f .any (fun w args => (s.pre enc C.prog fn conds apart w args ∧ X w args) ∧ sizedMet enc C.prog fn (OpenSpec.ofChange s) apart w args) (s.post enc C.prog fn apart fresh handsOn again) := by
  refine returnsInHanded_of_calls own started noInit witness ?_
  intro w tape i _ hsh _ hok hpre hholds
  obtain ⟨_, _, _, fn', hfn', _, _, _, _, hval⟩ := hok
  have e : fn' = fn := Option.some.inj (hfn'.symm.trans hfn)
  subst e
  obtain ⟨⟨⟨ds, gs, before, hw, hc⟩, hx⟩, hz⟩ := hpre
  have hw' := DataW.Whole.of_heap (w' := w.forCall tape i) (by rfl) hw
  refine (contract (w.forCall tape i) w.heap.size i.args ds gs before hval hw' hsh (hX _ _ _ (by rfl) hx)).mono fun e W' ⟨v, he, hp⟩ => ?_
  subst he
  exact ChangeSpec.post_blind hp
end Go.Proofs.YtnfagjemhbgfkaaDoor
namespace Go.Proofs.YtnfagjemhbgfkaaDoor.Sha
open Go.ChangeShapes Go.WideShapes Go.ChangeAt
theorem k_size : (((begin Tryd.prog (fun _ _ => 0) default).world.heap[1]?).bind Obj.row?).map (fun x => (x.1.size, Tryd.prog.buildable x.2, (Tryd.prog.cellTypes Tryd.prog.depth x.2).map (fun ts => (ts.length, ts.all (fun u => u == 40))))) = some (64, true, some (64, true)) := by kernel_rfl
theorem row_ints {P : Program} {w : World} {g n : Nat} {t : TypeId} {zero : Array Value} {ts : List TypeId} {u0 : TypeId} {k : IntKind}
    (h : w.ShapedOpen P) (hg : g < P.globals.size) (h0 : ((begin P (fun _ _ => 0) default).world.heap[g]?).bind Obj.row? = some (zero, t)) (hz : zero.size = n)
    (hb : P.buildable t = true) (hc : P.cellTypes P.depth t = some ts) (hl : ts.length = n) (ha : ∀ u ∈ ts, u = u0) (hu : P.underlying u0 = some (.int k)) :
    ∃ K : Nat → Int, ∀ i, i < n → w.cell? ⟨g, i, none⟩ = some (.int k (K i)) := by
  obtain ⟨cs, hh, hsz, hr⟩ := h.1 g zero t hg h0
  obtain ⟨ts', hts, _, hall⟩ := hr hb
  obtain rfl : ts' = ts := Option.some.inj (hts.symm.trans hc)
  have hcell : ∀ i, ∃ m : Int, i < n → w.cell? ⟨g, i, none⟩ = some (.int k m) := by
    intro i
    by_cases hi : i < n
    · have h1 : i < cs.size := by omega
      obtain ⟨u, hu', hok⟩ := hall i cs[i] (by simp [h1])
      obtain rfl : u = u0 := ha u (List.mem_of_getElem? hu')
      have hcl : w.cell? ⟨g, i, none⟩ = some cs[i] := by simp [World.cell?, hh, h1]
      rw [hcl]
      unfold Cell.ok at hok
      rw [hu] at hok
      cases hv : cs[i] <;> rw [hv] at hok <;> simp at hok
      case int k' m => exact ⟨m, fun _ => by rw [hok.1]⟩
    · exact ⟨0, fun h => absurd h hi⟩
  exact ⟨fun i => (hcell i).choose, fun i hi => (hcell i).choose_spec hi⟩
theorem k_shaped {w : World} (h : w.ShapedOpen Tryd.prog) : ∃ K : Nat → Int, ∀ i, i < 64 → w.cell? ⟨1, i, none⟩ = some (.int .u32 (K i)) := by
  have hs := k_size
  obtain ⟨⟨zero, t⟩, h0, h1⟩ := Option.map_eq_some_iff.1 hs
  simp only [Prod.mk.injEq] at h1
  obtain ⟨hz, hb, hc⟩ := h1
  obtain ⟨ts, hts, h2⟩ := Option.map_eq_some_iff.1 hc
  simp only [Prod.mk.injEq] at h2
  exact row_ints h (of_decide_eq_true (by kernel_rfl)) h0 hz hb hts h2.1 (fun u hu => by simpa using List.all_eq_true.1 h2.2 u hu) Tryd.underlying40
end Go.Proofs.YtnfagjemhbgfkaaDoor.Sha
