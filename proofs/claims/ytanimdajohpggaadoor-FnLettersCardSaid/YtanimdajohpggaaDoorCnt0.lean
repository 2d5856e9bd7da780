/- Counting; the numbers of letters as int32s. -/
import Derived.Test.YtanimdajohpggaaDoorUtf3
import Derived.Test.YtanimdajohpggaaDoorUtf6
namespace Go.Proofs.YtanimdajohpggaaDoor.Utf0
open Go.ChangeShapes Go.WideShapes Go.ChangeAt Go.RowKit Go.Trav Go.Utf
set_option linter.unusedVariables false
set_option maxRecDepth 100000
theorem Tryd.info21 : (Tryd.prog.info? 21).map (fun i => (i.zero, i.size, i.bytes)) = some (some (.int .i32 0), 1, 4) := by kernel_rfl
theorem let_wrap {x : Int} (h : Let x) : IntKind.i32.wrap x = x := by
  unfold Let at h
  exact IntWalk.i32_in _ (by omega)
theorem cnt_one {l : List Int} {x : Int} (h : l.Nodup) (hx : x ∈ l) : cnt l x = 1 := by
  unfold cnt
  induction l with
  | nil => simp at hx
  | cons a r ih =>
    obtain ⟨h1, h2⟩ := List.nodup_cons.1 h
    rw [List.countP_cons]
    by_cases e : a = x
    · subst e
      have : r.countP (fun y => y == a) = 0 := List.countP_eq_zero.2 (fun y hy => by
        intro he
        have : y = a := by simpa using he
        exact h1 (this ▸ hy))
      simp [this]
    · rcases List.mem_cons.1 hx with rfl | hx
      · exact absurd rfl e
      · have := ih h2 hx
        simp [this, e]
theorem cnt_pos {l : List Int} {x : Int} (hx : x ∈ l) : 0 < cnt l x := List.countP_pos_iff.2 ⟨x, hx, by simp⟩
end Go.Proofs.YtanimdajohpggaaDoor.Utf0
