/- Places: small functions. PRINTED by tools/gen_plm.py out of Plc1. -/
import Derived.Test.YtnfagjemhbgfkaaDoorNfa2
import Derived.Laws.BitsAllLaws
import Derived.Deep.QuietTactic
import Derived.BigQuiet
namespace Go.Proofs.YtnfagjemhbgfkaaDoor.Nfa
open Go.ChangeShapes Go.WideShapes Go.ChangeAt Go.RowKit Go.Trav Go.Nor Go.Proofs.YtnfagjemhbgfkaaDoor.Srt
set_option linter.unusedVariables false
set_option linter.unusedSimpArgs false
set_option maxRecDepth 100000
theorem and_bit (x k : Nat) (hx : x < 18446744073709551616) : (bits BinOp.and IntKind.u64 ((x : Int) / 2 ^ k) 1 == 1) = x.testBit k := by
  have e1 : ((x : Int) / 2 ^ k) = ((x / 2 ^ k : Nat) : Int) := by
    rw [Int.natCast_ediv]; simp
  have hx2 : x / 2 ^ k < 18446744073709551616 := Nat.lt_of_le_of_lt (Nat.div_le_self _ _) hx
  rw [e1]
  have e2 := u64_and_nat (x / 2 ^ k) 1 hx2 (by omega)
  have e3 : ((1 : Nat) : Int) = 1 := rfl
  rw [e3] at e2
  rw [e2, nat_mask1, Nat.testBit_eq_decide_div_mod_eq, Bool.eq_iff_iff]
  simp
  omega
set_option maxHeartbeats 1000000 in
theorem ext_any (X p : Nat) (w : World) (hX : X < 18446744073709551616) (hp : p < 64) :
    Calls Tryd.prog 29 #[.int .u64 X, .int .u8 p] w fun e w' => e = .returned (.bool (X.testBit p)) ∧ w' = w := by
  have HB := Lib.hid (and_bit X p hX)
  go_enter Tryd.func29, Tryd.ntmps29
  go_wp2
  go_ret
  rw [← HB.out]
  exact ⟨rfl, rfl⟩
/-- The automaton's struct. -/
def LaAt (w : World) (L m : Nat) (sw : Bool) : Prop := w.heap[L]? = some (.cells #[.int .u8 m, .bool sw] 44 (0, 0))
theorem LaAt.below {w w' : World} {L m : Nat} {sw : Bool} (h : LaAt w L m sw) (hb : Below w.heap.size w w') : LaAt w' L m sw := block_below h hb (block_lt h)
theorem dia_any (L m : Nat) (sw : Bool) (w : World) (h : LaAt w L m sw) (hm : m ≤ 8) :
    Calls Tryd.prog 14 #[.pointer (some ⟨L, 0, none⟩)] w fun e w' => e = .returned (.int .u8 ((2 * m + 1 : Nat))) ∧ w' = w := by
  have c0 := block_cell (i := 0) (u := .int .u8 m) h rfl
  clear h
  go_enter Tryd.func14, Tryd.ntmps14
  go_wp2
  go_ret
  refine ⟨?_, rfl⟩
  congr 2
theorem newl_any (m : Nat) (sw : Bool) (w : World) : Calls Tryd.prog 7 #[.int .u8 m, .bool sw] w fun e w' => e = .returned (.pointer (some ⟨w.heap.size, 0, none⟩)) ∧ LaAt w' w.heap.size m sw ∧ Below w.heap.size w w' := by
  go_enter Tryd.func7, Tryd.ntmps7
  go_wp2
  go_ret
  exact ⟨rfl, heap_alloc_new w _, (Below.refl _ _).alloc (Nat.le_refl _) _⟩
theorem dist_any (x y : Nat) (w : World) (hx : x ≤ 1000000) (hy : y ≤ 1000000) :
    Calls Tryd.prog 24 #[.int .u32 x, .int .u32 y] w fun e w' => e = .returned (.int .u32 (far x y : Nat)) ∧ w' = w := by
  by_cases h : y < x
  · have e : far x y = x - y := by unfold far; rw [if_neg (by omega)]
    obtain ⟨z, hz⟩ : ∃ z : Nat, z = x - y := ⟨_, rfl⟩
    rw [e, ← hz]
    have hzz : ((x : Int) - (y : Int)) = (z : Int) := by omega
    have h1 : (y : Int) < (x : Int) := by omega
    clear hz e
    go_enter Tryd.func24, Tryd.ntmps24
    go_wp2
    go_ret
    exact ⟨rfl, rfl⟩
  · have e : far x y = y - x := by unfold far; split <;> omega
    obtain ⟨z, hz⟩ : ∃ z : Nat, z = y - x := ⟨_, rfl⟩
    rw [e, ← hz]
    have hzz : ((y : Int) - (x : Int)) = (z : Int) := by omega
    have h1 : ¬ (y : Int) < (x : Int) := by omega
    clear hz e
    go_enter Tryd.func24, Tryd.ntmps24
    go_wp2
    go_ret
    exact ⟨rfl, rfl⟩
theorem reads_at {w : World} {v : Value} {n : Nat} {S : List Plc} (h : Reads w v n 3 (S.flatMap pC)) {k : Nat} (hk : k < n) :
    ∃ b off cap x, v = .slice (some ⟨b, off, none⟩) n cap ∧ S[k]? = some x ∧ w.cell? ⟨b, off + k * 3, none⟩ = some (.int .u32 (x.o : Nat)) ∧ w.cell? ⟨b, off + k * 3 + 1, none⟩ = some (.int .u8 (x.d : Nat)) ∧ w.cell? ⟨b, off + k * 3 + 2, none⟩ = some (.bool x.t) := by
  obtain ⟨b, off, cap, x, e, hx, hc⟩ := Reads.rec pC pC_len h (by omega) hk
  exact ⟨b, off, cap, x, e, hx, hc 0 _ rfl, hc 1 _ rfl, hc 2 _ rfl⟩
theorem clear_any (base M : Nat) (v : Value) (w : World) (h : MsAt w base M v []) (hg : ∃ g cap, v = .slice (some ⟨g, 0, none⟩) 0 cap) :
    Calls Tryd.prog 21 #[.pointer (some ⟨M, 0, none⟩)] w fun e w' => e = .returned (.tuple #[]) ∧ MsAt w' base M v [] ∧ Below base w w' := by
  obtain ⟨g, cap, rfl⟩ := hg
  have c0 := block_cell (i := 0) (u := .slice (some ⟨g, 0, none⟩) 0 cap) h.blk rfl
  have f0 : w.frozen? ⟨M, 0, none⟩ = false := block_free h.blk
  have H := Lib.hid h
  clear h
  go_enter Tryd.func21, Tryd.ntmps21
  go_wp2
  go_end0
  refine ⟨rfl, ⟨block_set H.out.blk, ?_, H.out.ge⟩, (Below.refl _ _).setCell H.out.ge _⟩
  exact ownsRow_setCell_ne H.out.row (fun e => H.out.ne e.symm) _
end Go.Proofs.YtnfagjemhbgfkaaDoor.Nfa
