/- Small lemmas of writers: frames. -/
import Derived.Test.YtkbonmjbfpdchaaDoorWrNew
namespace Go.Proofs.YtkbonmjbfpdchaaDoor.Buf
open Go.ChangeShapes Go.WideShapes Go.ChangeAt Go.RowKit Go.Trav Go.Pk
set_option linter.unusedVariables false
set_option maxRecDepth 100000
theorem mod_toBelow {F : Nat → Prop} {w0 w w' : World} (h : Mod F w w') (hb : Below w0.heap.size w0 w) (hF : ∀ k, F k → w0.heap.size ≤ k) : Below w0.heap.size w0 w' :=
  hb.trans (h.toBelow hb.size fun k _ hk => hF k hk)
/-- A new bytes.Buffer. -/
theorem Is.fresh (w : World) : Is (w.alloc (.cells #[.slice none 0 0, .int .i64 0, .int .i8 0] 97 (0, 0))) w.heap.size (.slice none 0 0) [] :=
  ⟨⟨0, heap_alloc_new _ _⟩, World.ownsRow_nil _ _ _ _, Or.inl rfl, by simp [Value.ownBlock]⟩
/-- Where all of a writer is new. -/
theorem wf_new {w0 : World} {u : Nat} {i : Ids} (h : w0.heap.size ≤ u) (h1 : w0.heap.size ≤ i.q) (h2 : w0.heap.size ≤ i.f) (h3 : w0.heap.size ≤ i.b) (h4 : ∀ k, i.v.ownBlock = some k → w0.heap.size ≤ k) : ∀ k, WF u i k → w0.heap.size ≤ k := by
  rintro k (rfl | rfl | rfl | rfl | hk)
  · exact h
  · exact h1
  · exact h2
  · exact h3
  · exact h4 k hk
end Go.Proofs.YtkbonmjbfpdchaaDoor.Buf
