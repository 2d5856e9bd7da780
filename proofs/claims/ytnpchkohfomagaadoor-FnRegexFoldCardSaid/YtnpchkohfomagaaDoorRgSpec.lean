/- The spec of the automaton of instructions: spec.Taking. -/
import Derived.Test.YtnpchkohfomagaaDoorRows
import Derived.Test.YtnpchkohfomagaaDoorRgPa
import Derived.Test.YtnpchkohfomagaaDoorLib2
import Derived.Test.YtnpchkohfomagaaDoorFLib
import Derived.Deep.QuietTactic
import Derived.BigQuiet
import Derived.WalkLawsBesides
import Derived.WalkSpells
import Derived.Lib.QuietBelow
import Derived.Deep.RegionWith
import Derived.Deep.OwnRows
import Derived.Deep.RegionHeld3
import Derived.Maps.AppendAt
namespace Go.Proofs.YtnpchkohfomagaaDoor.Rgw
open Go.ChangeShapes Go.WideShapes Go.ChangeAt Go.RowKit Go.Trav Go.Rg
set_option linter.unusedVariables false
set_option linter.unusedSimpArgs false
set_option maxRecDepth 100000
def inC (i : In) : List Value := [.int .i64 (i.op : Int), .int .u64 (i.to : Int), .int .u64 (i.a : Int), .int .u64 (i.b : Int), .int .u8 (i.lo : Int), .int .u8 (i.hi : Int)]
theorem inC_len (i : In) : (inC i).length = 6 := rfl
/-- A row of instructions that reads, cell by cell. -/
theorem in_cells {w : World} {b o n c : Nat} {l : List In} {k : Nat} {i : In} (h : Reads w (.slice (some ⟨b, o, none⟩) n c) n 6 (l.flatMap inC)) (hk : l[k]? = some i) :
    w.cell? ⟨b, o + k * 6, none⟩ = some (.int .i64 (i.op : Int)) ∧ w.cell? ⟨b, o + k * 6 + 1, none⟩ = some (.int .u64 (i.to : Int)) ∧ w.cell? ⟨b, o + k * 6 + 2, none⟩ = some (.int .u64 (i.a : Int)) ∧ w.cell? ⟨b, o + k * 6 + 3, none⟩ = some (.int .u64 (i.b : Int)) ∧ w.cell? ⟨b, o + k * 6 + 4, none⟩ = some (.int .u8 (i.lo : Int)) ∧ w.cell? ⟨b, o + k * 6 + 5, none⟩ = some (.int .u8 (i.hi : Int)) := by
  obtain ⟨ao, cap, e, h1, h2, h3, h4, h5⟩ := h
  have hl : l.length * 6 = n * 6 := by rw [← h4, flatMap_len inC 6 inC_len]
  have hkl := (List.getElem?_eq_some_iff.mp hk).1
  obtain ⟨b', o', e', hc⟩ := h5 (by rw [h4]; omega)
  cases e
  cases e'
  have key : ∀ j v, j < 6 → (inC i)[j]? = some v → w.cell? ⟨b, o + (k * 6 + j), none⟩ = some v := fun j v hj hv => hc _ _ (by rw [flatMap_at inC 6 inC_len l k j hj i hk]; exact hv)
  refine ⟨key 0 _ (by omega) rfl, ?_, ?_, ?_, ?_, ?_⟩
  · rw [Nat.add_assoc]; exact key 1 _ (by omega) rfl
  · rw [Nat.add_assoc]; exact key 2 _ (by omega) rfl
  · rw [Nat.add_assoc]; exact key 3 _ (by omega) rfl
  · rw [Nat.add_assoc]; exact key 4 _ (by omega) rfl
  · rw [Nat.add_assoc]; exact key 5 _ (by omega) rfl
theorem in_slice {w : World} {v : Value} {n : Nat} {l : List In} (h : Reads w v n 6 (l.flatMap inC)) (hn : 0 < n) : ∃ b o c, v = .slice (some ⟨b, o, none⟩) n c ∧ l.length = n := by
  have hl := h.recs inC inC_len (by omega)
  obtain ⟨ao, cap, rfl, h1, h2, h3, h4, h5⟩ := h
  obtain ⟨b, o, rfl, _⟩ := h5 (by rw [h4]; omega)
  exact ⟨b, o, cap, rfl, hl⟩
theorem takes_op {l : List In} {k : Nat} {i : In} (h : l[k]? = some i) : takes l k = (i.op == 0 || i.op == 3) := by unfold takes; rw [h]
theorem taking_any (l : List In) (v : Value) (w : World) (hs : Sound l) (h : Reads w v l.length 6 (l.flatMap inC)) (h0 : 0 < l.length) (hl : l.length ≤ 1000000) :
    Calls Tryd.prog 12 #[v] w fun e w' => e = .returned (.int .i64 ((taking l).length : Int)) ∧ w = w' := by
  obtain ⟨b, o, c, rfl, _⟩ := in_slice h h0
  have H := Lib.hid h
  have HS := Lib.hid hs
  clear h hs
  go_enter Tryd.func12, Tryd.ntmps12
  go_wp2_with fail
  go_loopw [3, 4] (fun nv ix wr => ∃ k : Nat, ix = .int .i64 k ∧ k ≤ l.length ∧ nv = .int .i64 (takTo l k : Int) ∧ w = wr) (fun _ ix _ => l.length - (intOf ix).toNat)
  case atStart => exact ⟨0, rfl, Nat.zero_le _, by rw [takTo_zero]; rfl, rfl⟩
  case round =>
    obtain ⟨k, rfl, hk, rfl, rfl⟩ := hrel
    by_cases hlt : k < l.length
    · obtain ⟨i, hi⟩ : ∃ i, l[k]? = some i := ⟨_, List.getElem?_eq_getElem hlt⟩
      obtain ⟨c0, c1, c2, c3, c4, c5⟩ := in_cells H.out hi
      have h4 := (HS.out k i hi).2.2.2
      have hsucc := takTo_succ l k
      rw [takes_op hi] at hsucc
      have hle := takTo_le l k
      have HSU := Lib.hid hsucc
      clear hsucc hi
      generalize takTo l k = t at *
      rcases show i.op = 0 ∨ i.op = 1 ∨ i.op = 2 ∨ i.op = 3 by omega with e0 | e0 | e0 | e0
      all_goals
        have E0 := Lib.hid e0
        rw [e0] at c0
        go_wp2_with fail
        go_roundw
        case rel => exact ⟨k + 1, by go_num, hlt, by rw [HSU.out, E0.out]; simp, trivial⟩
        case measure => simp [intOf]; omega
    · obtain rfl : k = l.length := by omega
      go_wp2_with fail
      go_ret
      exact ⟨rfl, rfl⟩
end Go.Proofs.YtnpchkohfomagaaDoor.Rgw
