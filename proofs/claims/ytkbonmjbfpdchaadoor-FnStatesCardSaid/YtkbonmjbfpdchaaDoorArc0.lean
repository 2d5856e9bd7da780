/- Arcs of plain states: how they read. -/
import Derived.Test.YtkbonmjbfpdchaaDoorRows
import Derived.Test.YtkbonmjbfpdchaaDoorLib
import Derived.Deep.QuietTactic
import Derived.BigQuiet
import Derived.WalkLawsBesides
import Derived.WalkSpells
import Derived.Lib.QuietBelow
import Derived.Deep.RegionWith
namespace Go.Proofs.YtkbonmjbfpdchaaDoor.Node
open Go.ChangeShapes Go.WideShapes Go.ChangeAt Go.RowKit Go.Trav Go.Sort
set_option linter.unusedVariables false

/-- An arc: its byte, its output, where it leads. -/
abbrev Arc := Int × Int × Int
def arcCells (x : Arc) : List Value := [.int .u8 x.1, .int .u64 x.2.1, .int .i64 x.2.2]
theorem arcCells_len (x : Arc) : (arcCells x).length = 3 := rfl
def Arcs (w : World) (v : Value) (n : Nat) (l : List Arc) : Prop := Reads w v n 3 (l.flatMap arcCells)
def stateV (f : Bool) (o : Int) (v : Value) : Value := .agg #[.bool f, .int .u64 o, v]

theorem Arcs.at {w : World} {v : Value} {n : Nat} {l : List Arc} (h : Arcs w v n l) {k : Nat} (hk : k < n) :
    ∃ b off cap i o t, v = .slice (some ⟨b, off, none⟩) n cap ∧ l[k]? = some (i, o, t) ∧ w.cell? ⟨b, off + k * 3, none⟩ = some (.int .u8 i) ∧ w.cell? ⟨b, off + k * 3 + 1, none⟩ = some (.int .u64 o) ∧ w.cell? ⟨b, off + k * 3 + 2, none⟩ = some (.int .i64 t) := by
  obtain ⟨b, off, cap, ⟨i, o, t⟩, rfl, e, hc⟩ := Reads.rec arcCells arcCells_len h (by omega) hk
  exact ⟨b, off, cap, i, o, t, rfl, e, hc 0 _ rfl, hc 1 _ rfl, hc 2 _ rfl⟩

theorem fits9 (f : Bool) (o : Int) (a : Option Addr) (n c : Nat) (w : World) :
    Calls Tryd.prog 21 #[.agg #[.bool f, .int .u64 o, .slice a n c]] w fun e w' => e = .returned (.bool (decide (n ≤ 2147483647))) ∧ Below w.heap.size w w' := by
  by_cases h : n ≤ 2147483647
  · have H : Hid (decide (n ≤ 2147483647) = true) := Lib.hid (by simpa using h)
    go_enter Tryd.func21, Tryd.ntmps21
    go_wp2
    go_ret
    exact ⟨by rw [H.out]; rfl, (Below.refl _ _).alloc (Nat.le_refl _) _⟩
  · have H : Hid (decide (n ≤ 2147483647) = false) := Lib.hid (by simpa using h)
    go_enter Tryd.func21, Tryd.ntmps21
    go_wp2
    go_ret
    exact ⟨by rw [H.out]; rfl, (Below.refl _ _).alloc (Nat.le_refl _) _⟩

end Go.Proofs.YtkbonmjbfpdchaaDoor.Node
