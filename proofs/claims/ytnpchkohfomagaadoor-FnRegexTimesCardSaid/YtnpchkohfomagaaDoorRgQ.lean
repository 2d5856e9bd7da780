/- A region of a function by its number; posts at a region's end; a cut inside a region. -/
import Derived.Deep.RegionHeld3
namespace Go.Proofs.YtnpchkohfomagaaDoor.Rgq
open Go
set_option linter.unusedVariables false
/-- The operations of the region with a number. -/
def regOps (k : Nat) : Code → Option (Array Oper)
  | .region i ops _ => if i = k then some ops else none
  | .seq a b => match regOps k a with
    | some o => some o
    | none => regOps k b
  | .cond _ a b => match regOps k a with
    | some o => some o
    | none => regOps k b
  | .block _ b => regOps k b
  | .loop b => regOps k b
  | .scope b => regOps k b
  | _ => none
def fnOps (f : Func) (k : Nat) : Option (Array Oper) :=
  match f.body with
  | some c => regOps k c
  | none => none
/-- A post at the end alone: no panic, no way out. -/
def AtEnd (R : Act → World → Prop) : Exit → Act → World → Prop
  | .normal, a, w => R a w
  | _, _, _ => False
theorem AtEnd.imp {R : Act → World → Prop} {K : Act → World → Prop} {Q : Exit → Act → World → Prop} (h : ∀ a w, R a w → K a w) : ∀ e a w, AtEnd R e a w → Exit.then K Q e a w := fun e a w q => by
  cases e with
  | normal => exact h _ _ q
  | exit _ => exact q.elim
  | goto _ => exact q.elim
  | ret => exact q.elim
  | panic _ => exact q.elim
  | outgrown => exact q.elim
section
variable {P : Program} {ops : Array Oper} {Q : Exit → Act → World → Prop} {md : Region.Mode} {S : World → Prop}
/-- The beginning, the count and the list written out. -/
theorem wp_region_held_start {id : Nat} {a : Act} {w : World} (n : Nat) (l : Array Bool) (hm : P.follows .mixedOrders = true) (hn : ops.size = n) (hl : Array.replicate n false = l) (hS : S w.drew)
    (h : S w.drew → wpAnyH P .any ops Q S n l a w.drew) : (Code.region id ops true).wp P Q a w := by
  subst hn hl
  exact wp_region_held_drew hm hS h
/-- A cut inside a region: what follows is walked once. -/
theorem wpAnyH_cut {n0 : Nat} {l0 : Array Bool} {a0 : Act} {w0 : World} (fuel : Nat) (listed : Array Bool) (R : Act → World → Prop)
    (rest : ∀ a w, R a w → S w → wpAnyH P md ops Q S fuel listed a w)
    (main : Shut (∀ a w, R a w → S w → wpAnyH P md ops Q S fuel listed a w) → wpAnyH P md ops Q S n0 l0 a0 w0) : wpAnyH P md ops Q S n0 l0 a0 w0 := main rest
end
end Go.Proofs.YtnpchkohfomagaaDoor.Rgq
