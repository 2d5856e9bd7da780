/- The decoder: a state's struct, as it is written. -/
import Derived.Test.YtkbonmjbfpdchaaDoorDec1
import Derived.BigRegion
import Derived.Deep.DeepCutAuto
namespace Go.Proofs.YtkbonmjbfpdchaaDoor.Dec
open Go.ChangeShapes Go.WideShapes Go.ChangeAt Go.RowKit Go.Trav Go.Pk Go.Dec Go.Proofs.YtkbonmjbfpdchaaDoor.PkS
set_option linter.unusedVariables false
set_option linter.unusedSimpArgs false
set_option maxRecDepth 100000
theorem dps_any (c : Nat) (h : c < 256) (w : World) :
    Calls Tryd.prog 90 #[.int .u8 (c : Int)] w fun e w' => e = .returned (.tuple #[.int .i64 (c / 16 : Nat), .int .i64 (c % 16 : Nat)]) ∧ w = w' := by
  go_enter Tryd.func90, Tryd.ntmps90
  go_wp2_with fail
  go_ret2
  exact ⟨by simp, rfl⟩
theorem Cs.set {w : World} {S o : Nat} {cs : List Value} (h : Cs w S o cs) {j : Nat} (hj : j < cs.length) (u : Value) : Cs (w.setCell ⟨S, o + j, none⟩ u) S o (cs.set j u) := by
  intro k v hk
  have hjc := h j cs[j] (List.getElem?_eq_getElem hj)
  by_cases e : j = k
  · subst e
    rw [List.getElem?_set_self hj] at hk
    cases hk
    exact ⟨World.cell?_setCell_same _ _ _ hjc.1, (World.frozen?_setCell ..).trans hjc.2⟩
  · rw [List.getElem?_set_ne e] at hk
    obtain ⟨h1, h2⟩ := h k v hk
    exact ⟨(World.cell?_setCell_other _ _ _ _ (fun he => e (by injection he; omega))).trans h1, (World.frozen?_setCell ..).trans h2⟩
/-- The struct, since the world w0. -/
structure CsM (w0 w : World) (S o : Nat) (cs : List Value) : Prop where
  cells : Cs w S o cs
  mod : Mod (fun k => k = S) w0 w
theorem CsM.set {w0 w : World} {S o : Nat} {cs cs' : List Value} (h : CsM w0 w S o cs) (j : Nat) (hj : cs[j]?.isSome = true) (u : Value) (e : cs.set j u = cs') : CsM w0 (w.setCell ⟨S, o + j, none⟩ u) S o cs' :=
  ⟨e ▸ Cs.set h.cells (by simpa using hj) u, h.mod.setCell (p := ⟨S, o + j, none⟩) (fun _ => rfl) _⟩
theorem CsM.drewN {w0 w : World} {S o : Nat} {cs : List Value} (h : CsM w0 w S o cs) (k : Nat) : CsM w0 (w.drewN k) S o cs := ⟨h.cells, h.mod.drewN k⟩
theorem CsM.drew {w0 w : World} {S o : Nat} {cs : List Value} (h : CsM w0 w S o cs) : CsM w0 w.drew S o cs := h.drewN 1
/-- The struct of many arcs, as it grows. -/
def cM (dv : Value) (top bot n ts os : Nat) (f : Bool) (tt tb dt db ot ob fo : Nat) : List Value := [dv, iI top, iI bot, iI n, .int .u8 0, .bool false, .int .u64 0, .int .u64 0, iI ts, iI os, .bool f, iI tt, iI tb, iI dt, iI db, iI ot, iI ob, iI fo]
theorem CsM.at {w0 w : World} {S o : Nat} {cs : List Value} (h : CsM w0 w S o cs) (j : Nat) (u : Value) (e : cs[j]? = some u) : w.cell? ⟨S, o + j, none⟩ = some u ∧ w.frozen? ⟨S, o + j, none⟩ = false := h.cells j u e
/-- One state's bytes, as atMulti reads them. -/
structure MB (D : List Nat) (top b1 s0 n ts os : Nat) (f : Bool) : Prop where
  topv : D[top]? = some ((if n ≤ 63 then n else 0) + if f then 64 else 0)
  n0 : (n = 0 ∨ 63 < n) → b1 + 1 = top ∧ D[b1]? = some (if n = 256 then 1 else n)
  n1 : n ≠ 0 → n ≤ 63 → b1 = top
  b1e : b1 = tbOf s0 n ts os f + n + 1
  szs : D[tbOf s0 n ts os f + n]? = some (ts * 16 + os)
  n256 : n ≤ 256
  ts8 : ts ≤ 8
  os8 : os ≤ 8
theorem and64 : ∀ v : Fin 256, bits BinOp.and IntKind.u8 ((v.val : Nat) : Int) 64 = if v.val / 64 % 2 = 1 then 64 else 0 := by decide
theorem hi_bit {v : Nat} (f : Bool) (hv : v ≤ 63) : decide ((0 : Int) < bits BinOp.and IntKind.u8 ((v + if f then 64 else 0 : Nat) : Int) 64) = f := by
  cases f with
  | true => have := and64 ⟨v + 64, by omega⟩; simp only at this; rw [if_pos (by omega)] at this; simp only [if_true]; rw [this]; rfl
  | false => have := and64 ⟨v, by omega⟩; simp only at this; rw [if_neg (by omega)] at this; simp only [Bool.false_eq_true, if_false, Nat.add_zero]; rw [this]; rfl
end Go.Proofs.YtkbonmjbfpdchaaDoor.Dec
