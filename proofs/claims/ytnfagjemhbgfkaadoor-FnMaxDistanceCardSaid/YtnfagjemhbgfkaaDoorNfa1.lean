/- Places: imply; addStates. -/
import Derived.Test.YtnfagjemhbgfkaaDoorNfa0
namespace Go.Proofs.YtnfagjemhbgfkaaDoor.Nfa
open Go.ChangeShapes Go.WideShapes Go.ChangeAt Go.RowKit Go.Trav Go.Nor Go.Proofs.YtnfagjemhbgfkaaDoor.Srt
set_option linter.unusedVariables false
set_option linter.unusedSimpArgs false
set_option maxRecDepth 100000
/-- A place that is not too far on. -/
def Sm (x : Plc) : Prop := x.o ≤ 1000000 ∧ x.d ≤ 200
def pV (x : Plc) : Value := .agg #[.int .u32 (x.o : Nat), .int .u8 (x.d : Nat), .bool x.t]
theorem imp_of (a b : Plc) (n : Nat) (hn : n = a.d + far a.o b.o) : imp a b = if a.t || !b.t then decide (n ≤ b.d) else decide (n < b.d) := by rw [hn]; rfl
set_option maxHeartbeats 4000000 in
theorem imply_any (p o : Nat) (a b : Plc) (w : World) (ha : Sm a) (hb : Sm b) (c0 : w.cell? ⟨p, o, none⟩ = some (.int .u32 (a.o : Nat))) (c1 : w.cell? ⟨p, o + 1, none⟩ = some (.int .u8 (a.d : Nat))) (c2 : w.cell? ⟨p, o + 2, none⟩ = some (.bool a.t)) :
    Calls Tryd.prog 28 #[.pointer (some ⟨p, o, none⟩), pV b] w fun e w' => e = .returned (.bool (imp a b)) ∧ Below w.heap.size w w' := by
  obtain ⟨ao, ad, at'⟩ := a
  obtain ⟨bo, bd, bt⟩ := b
  obtain ⟨ha1, ha2⟩ := ha
  obtain ⟨hb1, hb2⟩ := hb
  unfold pV
  simp only at *
  have hne : p < w.heap.size := World.block_lt_of_cell? w _ c0
  have al : ∀ {a : Addr} {u : Value}, w.cell? a = some u → ∀ o, (w.alloc o).cell? a = some u := fun {a u} h o => by rw [World.cell?_of_block (Below.heap_alloc _ _ _ (World.block_lt_of_cell? w _ h))]; exact h
  have C0 := al c0 (.cells #[.int .u32 (bo : Nat), .int .u8 (bd : Nat), .bool bt] 71)
  have C1 := al c1 (.cells #[.int .u32 (bo : Nat), .int .u8 (bd : Nat), .bool bt] 71)
  have C2 := al c2 (.cells #[.int .u32 (bo : Nat), .int .u8 (bd : Nat), .bool bt] 71)
  have hnb : (w.alloc (.cells #[.int .u32 (bo : Nat), .int .u8 (bd : Nat), .bool bt] 71)).heap[w.heap.size]? = some (.cells #[.int .u32 (bo : Nat), .int .u8 (bd : Nat), .bool bt] 71 (0, 0)) := heap_alloc_new w _
  have D0 := block_cell (i := 0) (u := .int .u32 (bo : Nat)) hnb rfl
  have D1 := block_cell (i := 1) (u := .int .u8 (bd : Nat)) hnb rfl
  have D2 := block_cell (i := 2) (u := .bool bt) hnb rfl
  have HB := Lib.hid ((Below.refl w.heap.size w).alloc (Nat.le_refl _) (.cells #[.int .u32 (bo : Nat), .int .u8 (bd : Nat), .bool bt] 71))
  clear c0 c1 c2 al hnb
  by_cases h : ao < bo
  · obtain ⟨f, hf⟩ : ∃ f : Nat, f = bo - ao := ⟨_, rfl⟩
    have hfz : ((bo : Int) - (ao : Int)) = (f : Int) := by omega
    have hw : IntKind.u32.wrap (f : Int) = f := by simp [IntKind.wrap, IntKind.bits, IntKind.signed]; omega
    have hz : (ao : Int) < (bo : Int) := by omega
    have e := imp_of ⟨ao, ad, at'⟩ ⟨bo, bd, bt⟩ (ad + f) (by simp only [far, if_pos h]; omega)
    rw [e]
    clear hf e h
    go_enter Tryd.func28, Tryd.ntmps28
    go_upto_region 1 with (fail)
    generalize w.alloc (.cells #[.int .u32 (bo : Nat), .int .u8 (bd : Nat), .bool bt] 71) = W1 at C0 C1 C2 D0 D1 D2 HB ⊢
    cases at' <;> cases bt
    all_goals
      go_wp2
      go_quiet (fail)
      go_wp2
      go_quiet (fail)
      go_wp2
      go_quiet (fail)
      go_wp2
      go_quiet (fail)
      go_wp2
      go_ret
      refine ⟨?_, by repeat (first | exact HB.out | refine below_drewN ?_ _)⟩
      refine congrArg (fun q => Ending.returned (Value.bool q)) (decide_eq_decide.2 ?_)
      omega
  · obtain ⟨f, hf⟩ : ∃ f : Nat, f = ao - bo := ⟨_, rfl⟩
    have hfz : ((ao : Int) - (bo : Int)) = (f : Int) := by omega
    have hw : IntKind.u32.wrap (f : Int) = f := by simp [IntKind.wrap, IntKind.bits, IntKind.signed]; omega
    have hz : ¬ (ao : Int) < (bo : Int) := by omega
    have e := imp_of ⟨ao, ad, at'⟩ ⟨bo, bd, bt⟩ (ad + f) (by simp only [far, if_neg h]; omega)
    rw [e]
    clear hf e h
    go_enter Tryd.func28, Tryd.ntmps28
    go_upto_region 1 with (fail)
    generalize w.alloc (.cells #[.int .u32 (bo : Nat), .int .u8 (bd : Nat), .bool bt] 71) = W1 at C0 C1 C2 D0 D1 D2 HB ⊢
    cases at' <;> cases bt
    all_goals
      go_wp2
      go_quiet (fail)
      go_wp2
      go_quiet (fail)
      go_wp2
      go_quiet (fail)
      go_wp2
      go_ret
      refine ⟨?_, by repeat (first | exact HB.out | refine below_drewN ?_ _)⟩
      refine congrArg (fun q => Ending.returned (Value.bool q)) (decide_eq_decide.2 ?_)
      omega
end Go.Proofs.YtnfagjemhbgfkaaDoor.Nfa
